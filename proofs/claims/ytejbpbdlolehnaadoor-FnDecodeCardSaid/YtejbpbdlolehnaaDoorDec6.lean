/- Parts of the proof of one law, in the order in which they build. spec.Identifier's bytes are those of the package's identifier. · laws.within and laws.packet walked: a packet of the caller's is read as one of the reference (Tree.wi), its data shared, its kids made. · laws.packet and laws.answer walked: within at a room of their own. · laws.answer: the packet within 60 levels and 200000 bytes. · The bytes of a packet as data; the reference's Bytes gives them. -/
import Derived.Handy
import Derived.Deep.RegionLaw
import Derived.Deep.DrawnRows
import Derived.Test.YtejbpbdlolehnaaDoorDec1
import Derived.Test.YtejbpbdlolehnaaDoorDec2
import Derived.Test.YtejbpbdlolehnaaDoorDec3
import Derived.Test.YtejbpbdlolehnaaDoorDec4
import Derived.Test.YtejbpbdlolehnaaDoorDec5
namespace Go.Proofs.YtejbpbdlolehnaaDoor.Ident
open Go.RowKit Go.Proofs.YtejbpbdlolehnaaDoorW.PrintWords Go.Proofs.YtejbpbdlolehnaaDoor.Num Go.Proofs.YtejbpbdlolehnaaDoor.PFnEncode
set_option linter.unusedVariables false
set_option linter.unusedSimpArgs false

theorem and_low64 (x : Nat) (hx : x < 9223372036854775808) : Go.bits .and .i64 (x : Int) 127 = ((x % 128 : Nat) : Int) := by
  show IntKind.i64.wrap ((BitVec.ofInt 64 (x : Int) &&& BitVec.ofInt 64 127).toNat : Int) = _
  rw [BitVec.toNat_and, BitVec.toNat_ofInt, BitVec.toNat_ofInt]
  have e0 : ((2 ^ 64 : Nat) : Int) = 18446744073709551616 := by decide
  rw [e0]
  have e1 : ((x : Int) % 18446744073709551616).toNat = x := by omega
  have e2 : ((127 : Int) % 18446744073709551616).toNat = 2 ^ 7 - 1 := by decide
  rw [e1, e2, Nat.and_two_pow_sub_one_eq_mod]
  exact IntWalk.i64_in _ (by omega)

theorem spec_loop (cls : Int) (c : Bool) (h0 : 0 ≤ cls) (h1 : cls ≤ 3) (t : Nat) (ht : t < 268435456) : ∀ (m i : Nat), i + m = 6 → 1 ≤ i → ng (t / 128 ^ i) + i = ng t →
    spec_Identifier.l0 (m + 1) (cb cls c) ((low (t : Int) i).reverse) ((t / 128 ^ i : Nat) : Int) = some ((cb cls c + 31) :: (low (t : Int) (ng t)).reverse) := by
  intro m
  induction m with
  | zero =>
    intro i hi _ hn
    have := ng_le 4 t (by omega)
    omega
  | succ m ih =>
    intro i hi hi1 hn
    unfold spec_Identifier.l0
    by_cases hz : t / 128 ^ i = 0
    · rw [hz, if_neg (by omega)]
      rw [hz, ng_zero] at hn
      simp only [Option.bind_some]
      rw [if_pos (by simp [low_length]; omega), or_cb cls c 31 h0 h1 (by omega) (by omega), show i = ng t by omega]
      rfl
    · have hpos : ((t / 128 ^ i : Nat) : Int) > 0 := Int.natCast_pos.2 (Nat.pos_of_ne_zero hz)
      rw [if_pos hpos]
      simp only [Option.bind_some]
      rw [if_pos (by simp [low_length]; omega)]
      have hle : t / 128 ^ i ≤ t := Nat.div_le_self _ _
      rw [and_low64 _ (by omega)]
      have e := or_e ⟨t / 128 ^ i % 128, Nat.mod_lt _ (by omega)⟩
      simp only at e
      rw [show ((t / 128 ^ i % 128 : Nat) : Int) % 256 = ((t / 128 ^ i % 128 : Nat) : Int) by omega, e]
      have hd : ((t / 128 ^ i % 128 : Nat) : Int) + 128 = dig (t : Int) i := by
        obtain ⟨j, rfl⟩ : ∃ j, i = j + 1 := ⟨i - 1, by omega⟩
        rw [dig]
        push_cast
        rfl
      have h2 : (t / 128 ^ i) / 128 = t / 128 ^ (i + 1) := by rw [Nat.pow_succ, Nat.div_div_eq_div_mul]
      have hr := ih (i + 1) (by omega) (by omega) (by rw [ng_pos hz, h2] at hn; omega)
      rw [low_snoc, List.reverse_append, ← hd, ← h2] at hr
      rw [← hr]
      congr 1

theorem spec_ident (cls tag : Int) (c : Bool) (d : List Int) (ks : List S29) (h0 : 0 ≤ cls) (h1 : cls ≤ 3) (t0 : 0 ≤ tag) (t1 : tag < 268435456) : spec_Identifier.f 7 cls tag c d ks = some (identT cls tag c) := by
  have hj : spec_Identifier.j0 7 (cb cls c) cls tag c d ks = some (identT cls tag c) := by
    show (if tag < 31 then (some (([Go.bits .or .u8 (cb cls c) (tag % 256)] : List Int))) else (spec_Identifier.l0 6 (cb cls c) (([(Go.bits .and .i64 tag 127) % 256] : List Int)) (tag / 128))) = _
    unfold identT
    by_cases ht : tag < 31
    · rw [if_pos ht, if_pos ht, show tag % 256 = tag by omega, or_cb cls c tag h0 h1 t0 (by omega)]
    · rw [if_neg ht, if_neg ht]
      obtain ⟨t, rfl⟩ : ∃ t : Nat, tag = t := ⟨tag.toNat, by omega⟩
      have hr := spec_loop cls c h0 h1 t (by omega) 5 1 rfl (Nat.le_refl _) (by
        rw [ng_pos (show t ≠ 0 by omega), Nat.pow_one])
      rw [Int.toNat_natCast, ← hr, and_low64 _ (by omega)]
      congr 1
      show [((t % 128 : Nat) : Int) % 256] = [(t : Int) % 128]
      congr 1
      omega
  unfold spec_Identifier.f
  have hw : wrap64 (cls * 64) % 256 = cls * 64 := by unfold wrap64; omega
  rw [hw]
  cases c with
  | true =>
    rw [if_pos rfl]
    have e := or_b ⟨cls.toNat, by omega⟩
    simp only [Int.toNat_of_nonneg h0] at e
    rw [e]
    exact hj
  | false =>
    rw [if_neg (by decide)]
    have : cb cls false = cls * 64 := by simp [cb]
    rw [this] at hj
    exact hj
end Go.Proofs.YtejbpbdlolehnaaDoor.Ident
namespace Go.Proofs.YtejbpbdlolehnaaDoor.PFnEncode
open Go.RowKit Go.Proofs.YtejbpbdlolehnaaDoorW.PrintWords Go.Proofs.YtejbpbdlolehnaaDoorW.PrintLast Go.Proofs.YtejbpbdlolehnaaDoorW.PrintMore
attribute [local go_sem] max2_int min2_int max_two min_two max_three min_three max_four min_four   -- for this text's walks alone
set_option linter.unusedVariables false
set_option linter.unusedSimpArgs false

/-! ### spec_Bytes: function 12 -/
mutual
def spec_Bytes.l0 : Nat → List Int → List (S29) → Int → Int → Int → Int → Bool → List Int → List (S29) → Option (List Int)
  | 0, _, _, _, _, _, _, _, _, _ => none
  | k + 1, x3, x11, x12, x13, x188000, x188001, x188002, x188003, x188004 => if x13 < x12 then (if 0 ≤ x13 then (if x13 < (x11.length : Int) then ((spec_Bytes.f k ((rd_T29 x11 x13).f0) ((rd_T29 x11 x13).f1) ((rd_T29 x11 x13).f2) ((rd_T29 x11 x13).f3) ((rd_T29 x11 x13).f4)).bind fun t196 => (if x3.length + t196.length < 140737488355328 then (spec_Bytes.l0 k (x3 ++ t196) x11 x12 (wrap64 (x13 + 1)) x188000 x188001 x188002 x188003 x188004) else (none))) else (none)) else (none)) else ((spec_Identifier.f k x188000 x188001 x188002 x188003 x188004).bind fun t202 => ((spec_Length.f k (x3.length : Int)).bind fun t205 => (if t202.length + t205.length < 140737488355328 then ((some (t202 ++ t205 : List Int)).bind fun y208 => (if y208.length + x3.length < 140737488355328 then (some (y208 ++ x3)) else (none))) else (none))))
def spec_Bytes.f : Nat → Int → Int → Bool → List Int → List (S29) → Option (List Int)
  | 0, _, _, _, _, _ => none
  | k + 1, a0_0, a0_1, a0_2, l0_3, l0_4 => (some (([] : List Int) : List Int)).bind fun y188 => (if y188.length + l0_3.length < 140737488355328 then (spec_Bytes.l0 k (y188 ++ l0_3) l0_4 (l0_4.length : Int) 0 a0_0 a0_1 a0_2 l0_3 l0_4) else (none))
end
theorem spec_Bytes.mono_l : ∀ k, (∀ y0 y1 y2 y3 y4, LeO (spec_Bytes.f k y0 y1 y2 y3 y4) (spec_Bytes.f (k + 1) y0 y1 y2 y3 y4)) ∧ (∀ y0 y1 y2 y3 y4 y5 y6 y7 y8, LeO (spec_Bytes.l0 k y0 y1 y2 y3 y4 y5 y6 y7 y8) (spec_Bytes.l0 (k + 1) y0 y1 y2 y3 y4 y5 y6 y7 y8))
  | 0 => ⟨fun _ _ _ _ _ r h => by simp [spec_Bytes.f] at h, fun _ _ _ _ _ _ _ _ _ r h => by simp [spec_Bytes.l0] at h⟩
  | k + 1 => by
    obtain ⟨ih0, ih1⟩ := spec_Bytes.mono_l k
    refine ⟨?_, ?_⟩
    · intro y0 y1 y2 y3 y4
      unfold spec_Bytes.f
      repeat' first
      | (with_reducible exact ih0 _ _ _ _ _)
      | (with_reducible exact ih1 _ _ _ _ _ _ _ _ _)
      | (with_reducible exact spec_Identifier.mono _ _ _ _ _ _)
      | (with_reducible exact spec_Length.mono _ _)
      | (with_reducible exact LeO.refl _)
      | (with_reducible exact LeO.none _)
      | (with_reducible refine LeO.ite ?_ ?_)
      | (with_reducible refine LeO.bind ?_ (fun _ => ?_))
      | exact ih0 _ _ _ _ _
      | exact ih1 _ _ _ _ _ _ _ _ _
      | exact spec_Identifier.mono _ _ _ _ _ _
      | exact spec_Length.mono _ _
      | exact LeO.none _
      | refine LeO.ite ?_ ?_
      | refine LeO.bind ?_ (fun _ => ?_)
    · intro y0 y1 y2 y3 y4 y5 y6 y7 y8
      unfold spec_Bytes.l0
      repeat' first
      | (with_reducible exact ih0 _ _ _ _ _)
      | (with_reducible exact ih1 _ _ _ _ _ _ _ _ _)
      | (with_reducible exact spec_Identifier.mono _ _ _ _ _ _)
      | (with_reducible exact spec_Length.mono _ _)
      | (with_reducible exact LeO.refl _)
      | (with_reducible exact LeO.none _)
      | (with_reducible refine LeO.ite ?_ ?_)
      | (with_reducible refine LeO.bind ?_ (fun _ => ?_))
      | exact ih0 _ _ _ _ _
      | exact ih1 _ _ _ _ _ _ _ _ _
      | exact spec_Identifier.mono _ _ _ _ _ _
      | exact spec_Length.mono _ _
      | exact LeO.none _
      | refine LeO.ite ?_ ?_
      | refine LeO.bind ?_ (fun _ => ?_)
theorem spec_Bytes.mono : ∀ a0 a1 a2 a3 a4 k, LeO (spec_Bytes.f k a0 a1 a2 a3 a4) (spec_Bytes.f (k + 1) a0 a1 a2 a3 a4) := by
  intro a0 a1 a2 a3 a4 k
  obtain ⟨ih0, ih1⟩ := spec_Bytes.mono_l k
  exact ih0 a0 a1 a2 a3 a4
set_option maxHeartbeats 8000000 in
set_option maxRecDepth 100000 in
theorem spec_Bytes.calls (k : Nat) : ∀ (a0_0 : Int) (a0_1 : Int) (a0_2 : Bool) (A0_3 : Option Addr) (c0_3 : Nat) (l0_3 : List Int) (A0_4 : Option Addr) (c0_4 : Nat) (l0_4 : List (S29)) (r : List Int) (w : World) (hr0_3 : Kd.C (Kd.int .u8) w A0_3 l0_3.length l0_3) (hc0_3 : l0_3.length ≤ c0_3) (hr0_4 : Kd.C k29 w A0_4 l0_4.length l0_4) (hc0_4 : l0_4.length ≤ c0_4) (h : spec_Bytes.f k a0_0 a0_1 a0_2 l0_3 l0_4 = some r),
    Calls Tryd.prog 12 #[.agg #[.int .i64 a0_0, .int .i64 a0_1, .bool a0_2, .slice A0_3 l0_3.length c0_3, .slice A0_4 l0_4.length c0_4]] w fun e w' => ∃ v0_ : Value, e = .returned (v0_) ∧ Kd.R (Kd.int .u8) 5 w' w.heap.size (fun _ => True) v0_ r ∧ Below w.heap.size w w' := by
  induction k using Nat.strongRecOn with
  | _ k ih =>
  intro a0_0 a0_1 a0_2 A0_3 c0_3 l0_3 A0_4 c0_4 l0_4 r w hr0_3 hc0_3 hr0_4 hc0_4 h
  cases k with
  | zero => exact absurd h (by simp [spec_Bytes.f])
  | succ k =>
  simp only [spec_Bytes.f] at h
  have hu29 := Tryd.underlying29
  have HR0_3 := Aside0.mk hr0_3
  have HC0_3 := Aside0.mk hc0_3
  clear hr0_3 hc0_3
  have HR0_4 := Aside0.mk hr0_4
  have HC0_4 := Aside0.mk hc0_4
  clear hr0_4 hc0_4
  have HB := Aside0.mk (Below.refl w.heap.size w)
  have H : ((some (([] : List Int) : List Int)).bind fun y188 => (if y188.length + l0_3.length < 140737488355328 then (spec_Bytes.l0 k (y188 ++ l0_3) l0_4 (l0_4.length : Int) 0 a0_0 a0_1 a0_2 l0_3 l0_4) else (none))) = some r := h
  clear h
  obtain ⟨y188, hy188⟩ : ∃ y_ : List Int, y_ = (([] : List Int)) := ⟨_, rfl⟩
  replace H : (if y188.length + l0_3.length < 140737488355328 then (spec_Bytes.l0 k (y188 ++ l0_3) l0_4 (l0_4.length : Int) 0 a0_0 a0_1 a0_2 l0_3 l0_4) else (none)) = some r := by first | (rw [hy188]; with_reducible exact H) | (have H2_ := (Option.bind_some _ _).symm.trans H; rw [hy188]; with_reducible exact H2_) | (have H2_ := (Option.bind_some _ _).symm.trans H; with_reducible exact H2_) | with_reducible exact H | (rw [hy188]; exact H) | exact H
  have Ny188 := Aside0.mk hy188
  clear hy188
  by_cases c2 : y188.length + l0_3.length < 140737488355328
  · rw [if_pos c2] at H
    have LMc2 := Aside0.mk c2
    clear c2
    obtain ⟨y191, hy191⟩ : ∃ y_ : List Int, y_ = (y188 ++ l0_3) := ⟨_, rfl⟩
    replace H : (spec_Bytes.l0 k y191 l0_4 (l0_4.length : Int) 0 a0_0 a0_1 a0_2 l0_3 l0_4) = some r := by first | (rw [hy191]; with_reducible exact H) | (have H2_ := (Option.bind_some _ _).symm.trans H; rw [hy191]; with_reducible exact H2_) | (have H2_ := (Option.bind_some _ _).symm.trans H; with_reducible exact H2_) | with_reducible exact H | (rw [hy191]; exact H) | exact H
    have Ny191 := Aside0.mk hy191
    clear hy191
    have H' := Aside0.mk H
    clear H
    go_enter Tryd.func12, Tryd.ntmps12
    go_wp2_with (first | ((with_reducible refine gate_dst (N := 1) rfl ?_); refine box_event ?hg (N := 1) ?hd (cs := #[.int .i64 a0_0, .int .i64 a0_1, .bool a0_2, .slice A0_3 l0_3.length c0_3, .slice A0_4 l0_4.length c0_4]) (t := 29) ?hr ?_; (case hd => rfl); (case hg => rfl); (case hr => first | (go_simp; done) | (go_simp; rfl)); intro gb187 hg w3 hbox hb; have n0_ := Aside0.mk (below_step (by repeat (first | (with_reducible first | exact HB.out | apply below_alloc | apply pw_below_drewN | apply below_drew1) | exact HB.out)) hb); have n1_ := Aside0.mk (hbox); have n2_ := Aside0.mk ((by rw [hg]; exact (below_size (by repeat (first | (with_reducible first | exact HB.out | apply below_alloc | apply pw_below_drewN | apply below_drew1) | exact HB.out))) : w.heap.size ≤ gb187)); have n3_ := Aside0.mk ((by rw [hg]; exact (below_size (by repeat (first | (with_reducible first | exact HB.out | apply below_alloc | apply pw_below_drewN | apply below_drew1) | exact HB.out))) : w.heap.size ≤ gb187)); clear HB; have HB := n0_; have BK187 := n1_; have GW187 := n2_; have GE187 := n3_; clear n0_ n1_ n2_ n3_; clear hb hbox hg) | ((with_reducible refine gate_dst (N := 6) rfl ?_); refine Kd.R_lit (Kd.int .u8) _ 5 ?hg (N := 6) ?hd (xs := ([] : List Int)) (inner := []) (ok := fun _ => True) (okp := fun _ => True) ?hr ?hp (fun _ hk => hk) trivial (Below.refl _ _) (Nat.le_refl _) (by simp) ?_; (case hd => rfl); (case hg => rfl); (case hr => first | (go_simp; done) | (go_simp; rfl)); (case hp => exact (Reps.none _ _)); intro v189 w4 ho5 hb hg_ hnew_; clear hg_ hnew_; (first | rw [← Ny188.out] at ho5 | (simp only [Int.reduceToNat] at ho5; rw [← Ny188.out] at ho5)); have n0_ := Aside0.mk (Kd.R_lower ho5 (below_size (by repeat (first | (with_reducible first | exact HB.out | apply below_alloc | apply pw_below_drewN | apply below_drew1 | refine below_set ?_ GE187.out) | exact HB.out)))); have n1_ := Aside0.mk (blk_below (g := gb187) (o := .cells #[.int .i64 a0_0, .int .i64 a0_1, .bool a0_2, .slice A0_3 l0_3.length c0_3, .slice A0_4 l0_4.length c0_4] 29 (0, 0)) (by (with_reducible repeat (first | refine blk_drewN ?_ _ | refine blk_drew ?_ | refine blk_alloc ?_ _)); exact BK187.out) hb); have n2_ := Aside0.mk (below_step (by repeat (first | (with_reducible first | exact HB.out | apply below_alloc | apply pw_below_drewN | apply below_drew1 | refine below_set ?_ GE187.out) | exact HB.out)) hb); clear BK187; clear HB; have HO190 := n0_; have BK187 := n1_; have HB := n2_; clear n0_ n1_ n2_; clear hb ho5; have hcz6_0 : w4.cell? ⟨gb187, 0, none⟩ = some (.int .i64 a0_0) := (blk_cell BK187.out 0).trans rfl; have hcz6_1 : w4.cell? ⟨gb187, 1, none⟩ = some (.int .i64 a0_1) := (blk_cell BK187.out 1).trans rfl; have hcz6_2 : w4.cell? ⟨gb187, 2, none⟩ = some (.bool a0_2) := (blk_cell BK187.out 2).trans rfl; have hcz6_3 : w4.cell? ⟨gb187, 3, none⟩ = some (.slice A0_3 l0_3.length c0_3) := (blk_cell BK187.out 3).trans rfl; have hcz6_4 : w4.cell? ⟨gb187, 4, none⟩ = some (.slice A0_4 l0_4.length c0_4) := (blk_cell BK187.out 4).trans rfl; have hfz6_0 := blk_frozen BK187.out 0; have hfz6_1 := blk_frozen BK187.out 1; have hfz6_2 := blk_frozen BK187.out 2; have hfz6_3 := blk_frozen BK187.out 3; have hfz6_4 := blk_frozen BK187.out 4) | ((with_reducible refine gate_builtin (b := .append) (xs := #[.tmp 6, .tmp 8]) rfl ?_); at_builtin; refine Kd.R_append_rows (Kd.int .u8) (w0 := w) w.heap.size rfl (.tmp 6) (.tmp 8) 22 5 (.int .u8 0) 1 rfl Tryd.underlying22 info5 rfl (by decide) (by omega) v189 y188 l0_3 _ _ _ (fun _ => True) (fun _ => False) rfl rfl ?aO ?aR (fun _ _ h => h) (fun _ h => h.elim) ?aF ?aB ?aS ?aL ?_; (case aR => repeat (first | exact (Kd.C_below HR0_3.out HB.out) | (with_reducible refine Kd.C_alloc ?_ _) | (with_reducible refine Kd.C_drewN ?_ _) | (with_reducible refine Kd.C_drew ?_))); (case aB => exact (by repeat (first | (with_reducible first | exact HB.out | apply below_alloc | apply pw_below_drewN | apply below_drew1 | refine below_set ?_ GE187.out) | exact HB.out))); (case aF => exact (fun _ _ => trivial)); (case aO => exact (by (with_reducible repeat (first | apply Kd.R_alloc | apply Kd.R_drewN | apply Kd.R_drew)); exact HO190.out)); (case aS => exact (below_size (by repeat (first | (with_reducible first | exact HB.out | apply below_alloc | apply pw_below_drewN | apply below_drew1 | refine below_set ?_ GE187.out) | exact HB.out)))); (case aL => have := LMc2.out; omega); intro v192 w7 ho hb hg hat; rw [← Ny191.out] at ho; have n0_ := Aside0.mk (blk_grown (g := gb187) (o := .cells #[.int .i64 a0_0, .int .i64 a0_1, .bool a0_2, .slice A0_3 l0_3.length c0_3, .slice A0_4 l0_4.length c0_4] 29 (0, 0)) (by (with_reducible repeat (first | refine blk_drewN ?_ _ | refine blk_drew ?_ | refine blk_alloc ?_ _)); exact BK187.out) hg (Kd.R_ne HO190.out BK187.out (by decide))); have n1_ := Aside0.mk (hb); have n2_ := Aside0.mk (ho); clear BK187; clear HB; clear HO190; have BK187 := n0_; have HB := n1_; have HO193 := n2_; clear n0_ n1_ n2_; clear ho hb hg hat; have hcz8_0 : w7.cell? ⟨gb187, 0, none⟩ = some (.int .i64 a0_0) := (blk_cell BK187.out 0).trans rfl; have hcz8_1 : w7.cell? ⟨gb187, 1, none⟩ = some (.int .i64 a0_1) := (blk_cell BK187.out 1).trans rfl; have hcz8_2 : w7.cell? ⟨gb187, 2, none⟩ = some (.bool a0_2) := (blk_cell BK187.out 2).trans rfl; have hcz8_3 : w7.cell? ⟨gb187, 3, none⟩ = some (.slice A0_3 l0_3.length c0_3) := (blk_cell BK187.out 3).trans rfl; have hcz8_4 : w7.cell? ⟨gb187, 4, none⟩ = some (.slice A0_4 l0_4.length c0_4) := (blk_cell BK187.out 4).trans rfl; have hfz8_0 := blk_frozen BK187.out 0; have hfz8_1 := blk_frozen BK187.out 1; have hfz8_2 := blk_frozen BK187.out 2; have hfz8_3 := blk_frozen BK187.out 3; have hfz8_4 := blk_frozen BK187.out 4))
    go_loopg [3, 13] k (fun kq v3 v13 w' => ∃ (x3_1 : List Int) (x13_1 : Int), v13 = .int .i64 x13_1 ∧ Aside0 (spec_Bytes.l0 kq x3_1 l0_4 (l0_4.length : Int) x13_1 a0_0 a0_1 a0_2 l0_3 l0_4 = some r) ∧ Aside0 (kq ≤ k) ∧ Aside0 (Kd.R (Kd.int .u8) 5 w' w.heap.size (fun _ => True) v3 x3_1) ∧ Aside0 (w'.heap[gb187]? = some (.cells #[.int .i64 a0_0, .int .i64 a0_1, .bool a0_2, (.slice A0_3 l0_3.length c0_3), (.slice A0_4 l0_4.length c0_4)] 29 (0, 0))) ∧ Aside0 (Below w.heap.size w w'))
    case atStart => exact ⟨(y191), (0), (by first | rfl | (simp; done) | (simp [*]; done)), H', ⟨Nat.le_refl _⟩, ⟨by (with_reducible repeat (first | apply Kd.R_alloc | apply Kd.R_drewN | apply Kd.R_drew)); exact HO193.out⟩, ⟨by (with_reducible repeat (first | refine blk_drewN ?_ _ | refine blk_drew ?_ | refine blk_alloc ?_ _)); exact BK187.out⟩, ⟨by repeat (first | (with_reducible first | exact HB.out | apply below_alloc | apply pw_below_drewN | apply below_drew1 | refine below_set ?_ GE187.out) | exact HB.out)⟩⟩
    case round =>
      clear H'
      try clear c1
      try clear c2
      try clear p2
      try clear hcz6_0
      try clear hcz6_1
      try clear hcz6_2
      try clear hcz6_3
      try clear hcz6_4
      try clear hcz8_0
      try clear hcz8_1
      try clear hcz8_2
      try clear hcz8_3
      try clear hcz8_4
      try clear hfz6_0
      try clear hfz6_1
      try clear hfz6_2
      try clear hfz6_3
      try clear hfz6_4
      try clear hfz8_0
      try clear hfz8_1
      try clear hfz8_2
      try clear hfz8_3
      try clear hfz8_4
      obtain ⟨x3_1, x13_1, rfl, HA, HK1, HO_3, BK187, HB⟩ := hrel
      cases gk with
      | zero => exact absurd HA.out (by simp [spec_Bytes.l0])
      | succ k1 =>
        have H := HA.out
        clear HA
        simp only [spec_Bytes.l0] at H
        by_cases c9 : x13_1 < (l0_4.length : Int)
        · rw [if_pos c9] at H
          have c9b0 : decide (x13_1 < (l0_4.length : Int)) = true := decide_eq_true c9
          clear c9
          by_cases c10 : 0 ≤ x13_1
          · rw [if_pos c10] at H
            have c10b0 : decide (0 ≤ x13_1) = true := decide_eq_true c10
            clear c10
            by_cases c11 : x13_1 < (l0_4.length : Int)
            · rw [if_pos c11] at H
              have c11b0 : decide (x13_1 < (l0_4.length : Int)) = true := decide_eq_true c11
              clear c11
              replace H := Option.bind_eq_some_iff.mp H
              obtain ⟨t196, A120, H⟩ := H
              replace H : (if x3_1.length + t196.length < 140737488355328 then (spec_Bytes.l0 k1 (x3_1 ++ t196) l0_4 (l0_4.length : Int) (wrap64 (x13_1 + 1)) a0_0 a0_1 a0_2 l0_3 l0_4) else (none)) = some r := H
              have A12 := Aside0.mk A120
              clear A120
              by_cases c13 : x3_1.length + t196.length < 140737488355328
              · rw [if_pos c13] at H
                have LMc13 := Aside0.mk c13
                clear c13
                obtain ⟨y199, hy199⟩ : ∃ y_ : List Int, y_ = (x3_1 ++ t196) := ⟨_, rfl⟩
                replace H : (spec_Bytes.l0 k1 y199 l0_4 (l0_4.length : Int) (wrap64 (x13_1 + 1)) a0_0 a0_1 a0_2 l0_3 l0_4) = some r := by first | (rw [hy199]; with_reducible exact H) | (have H2_ := (Option.bind_some _ _).symm.trans H; rw [hy199]; with_reducible exact H2_) | (have H2_ := (Option.bind_some _ _).symm.trans H; with_reducible exact H2_) | with_reducible exact H | (rw [hy199]; exact H) | exact H
                have Ny199 := Aside0.mk hy199
                clear hy199
                have H' := Aside0.mk H
                clear H
                have p194 : 0 ≤ (x13_1 : Int) := of_decide_eq_true (by first | (with_reducible assumption) | assumption)
                have q194 : x13_1 < (l0_4.length : Int) := of_decide_eq_true (by first | (with_reducible assumption) | assumption)
                obtain ⟨ad194, A194_3, c194_3, A194_4, c194_4, e194, hx194_0, hx194_1, hx194_2, hx194_3, hx194_4, hl194_3, hi194_3, hl194_4, hi194_4⟩ := at_T29 HR0_4.out x13_1 p194 q194
                cases e194
                replace hx194_0 := (HB.out.cell (World.block_lt_of_cell? w _ hx194_0)).trans hx194_0
                replace hx194_1 := (HB.out.cell (World.block_lt_of_cell? w _ hx194_1)).trans hx194_1
                replace hx194_2 := (HB.out.cell (World.block_lt_of_cell? w _ hx194_2)).trans hx194_2
                replace hx194_3 := (HB.out.cell (World.block_lt_of_cell? w _ hx194_3)).trans hx194_3
                replace hx194_4 := (HB.out.cell (World.block_lt_of_cell? w _ hx194_4)).trans hx194_4
                have HR194_3 := Aside0.mk hi194_3
                have HC194_3 := Aside0.mk hl194_3
                clear hi194_3 hl194_3
                have HR194_4 := Aside0.mk hi194_4
                have HC194_4 := Aside0.mk hl194_4
                clear hi194_4 hl194_4
                replace p194 := eq_true p194
                replace q194 := eq_true q194
                go_wp2_with (first | ((with_reducible refine gate_dst (N := 5) rfl ?_); refine box_event ?hg (N := 5) ?hd (cs := #[.int .i64 0, .int .i64 0, .bool false, .slice none 0 0, .slice none 0 0]) (t := 29) ?hr ?_; (case hd => rfl); (case hg => rfl); (case hr => first | (go_simp; done) | (go_simp; rfl)); intro gb195 hg w14 hbox hb; have n0_ := Aside0.mk (Kd.R_below (by (with_reducible repeat (first | apply Kd.R_alloc | apply Kd.R_drewN | apply Kd.R_drew)); exact HO_3.out) hb); have n1_ := Aside0.mk (blk_below (g := gb187) (o := .cells #[.int .i64 a0_0, .int .i64 a0_1, .bool a0_2, .slice A0_3 l0_3.length c0_3, .slice (some ad194) l0_4.length c0_4] 29 (0, 0)) (by (with_reducible repeat (first | refine blk_drewN ?_ _ | refine blk_drew ?_ | refine blk_alloc ?_ _)); exact BK187.out) hb); have n2_ := Aside0.mk (below_step (by repeat (first | (with_reducible first | exact HB.out | apply below_alloc | apply pw_below_drewN | apply below_drew1 | refine below_set ?_ GE187.out) | exact HB.out)) hb); have n3_ := Aside0.mk (hbox); have n4_ := Aside0.mk ((by rw [hg]; exact (below_size (by repeat (first | (with_reducible first | exact HB.out | apply below_alloc | apply pw_below_drewN | apply below_drew1 | refine below_set ?_ GE187.out) | exact HB.out))) : w.heap.size ≤ gb195)); have n5_ := Aside0.mk ((by rw [hg]; exact (below_size (by repeat (first | (with_reducible first | exact HB.out | apply below_alloc | apply pw_below_drewN | apply below_drew1 | refine below_set ?_ GE187.out) | exact HB.out))) : w.heap.size ≤ gb195)); have n6_ := Aside0.mk ((by rw [hg]; exact Nat.ne_of_lt (blk_lt (g := gb187) (o := .cells #[.int .i64 a0_0, .int .i64 a0_1, .bool a0_2, .slice A0_3 l0_3.length c0_3, .slice (some ad194) l0_4.length c0_4] 29 (0, 0)) (by (with_reducible repeat (first | refine blk_drewN ?_ _ | refine blk_drew ?_ | refine blk_alloc ?_ _)); exact BK187.out)) : gb187 ≠ gb195)); have n7_ := Aside0.mk ((by rw [hg]; exact Nat.ne_of_gt (blk_lt (g := gb187) (o := .cells #[.int .i64 a0_0, .int .i64 a0_1, .bool a0_2, .slice A0_3 l0_3.length c0_3, .slice (some ad194) l0_4.length c0_4] 29 (0, 0)) (by (with_reducible repeat (first | refine blk_drewN ?_ _ | refine blk_drew ?_ | refine blk_alloc ?_ _)); exact BK187.out)) : gb195 ≠ gb187)); clear HO_3; clear BK187; clear HB; have HO_3 := n0_; have BK187 := n1_; have HB := n2_; have BK195 := n3_; have GW195 := n4_; have GE195 := n5_; have NB187_195 := n6_; have NB195_187 := n7_; clear n0_ n1_ n2_ n3_ n4_ n5_ n6_ n7_; clear hb hbox hg; have hnb15 := NB195_187.out; have hnc15 := NB187_195.out; have hcz16_0 : w14.cell? ⟨gb195, 0, none⟩ = some (.int .i64 0) := (blk_cell BK195.out 0).trans rfl; have hcz16_1 : w14.cell? ⟨gb195, 1, none⟩ = some (.int .i64 0) := (blk_cell BK195.out 1).trans rfl; have hcz16_2 : w14.cell? ⟨gb195, 2, none⟩ = some (.bool false) := (blk_cell BK195.out 2).trans rfl; have hcz16_3 : w14.cell? ⟨gb195, 3, none⟩ = some (.slice none 0 0) := (blk_cell BK195.out 3).trans rfl; have hcz16_4 : w14.cell? ⟨gb195, 4, none⟩ = some (.slice none 0 0) := (blk_cell BK195.out 4).trans rfl; have hfz16_0 := blk_frozen BK195.out 0; have hfz16_1 := blk_frozen BK195.out 1; have hfz16_2 := blk_frozen BK195.out 2; have hfz16_3 := blk_frozen BK195.out 3; have hfz16_4 := blk_frozen BK195.out 4) | ((with_reducible refine gate_callee (f := 12) rfl ?_); refine goesL_ (some 19) rfl rfl Tryd.func12 (by kernel_rfl) rfl #[.agg #[.int .i64 ((rd_T29 l0_4 x13_1).f0), .int .i64 ((rd_T29 l0_4 x13_1).f1), .bool ((rd_T29 l0_4 x13_1).f2), .slice A194_3 ((rd_T29 l0_4 x13_1).f3).length c194_3, .slice A194_4 ((rd_T29 l0_4 x13_1).f4).length c194_4]] rfl (by (try simp only [List.map_toArray, List.map_cons, List.map_nil]); first | done | rfl | (simp only [List.length_drop, List.length_take]; rfl)) ?_; (with_reducible refine (ih k1 (by have := HK1.out; omega) ((rd_T29 l0_4 x13_1).f0) ((rd_T29 l0_4 x13_1).f1) ((rd_T29 l0_4 x13_1).f2) _ _ ((rd_T29 l0_4 x13_1).f3) _ _ ((rd_T29 l0_4 x13_1).f4) t196 _ ?side1 ?side2 ?side3 ?side4 A12.out).mono ?_); (case side1 => exact Kd.C_below HR194_3.out (by repeat (first | (with_reducible first | exact HB.out | apply below_alloc | apply pw_below_drewN | apply below_drew1 | refine below_set ?_ GE187.out | refine below_set ?_ GE195.out) | exact HB.out))); (case side2 => exact HC194_3.out); (case side3 => exact Kd.C_below HR194_4.out (by repeat (first | (with_reducible first | exact HB.out | apply below_alloc | apply pw_below_drewN | apply below_drew1 | refine below_set ?_ GE187.out | refine below_set ?_ GE195.out) | exact HB.out))); (case side4 => exact HC194_4.out); rintro e w17 ⟨v197, rfl, ho0, hb⟩; refine ⟨_, rfl, ?_⟩; have n0_ := Aside0.mk (Kd.R_elder' (by (with_reducible repeat (first | apply Kd.R_alloc | apply Kd.R_drewN | apply Kd.R_drew)); exact (Kd.R_mono (Kd.R_far (p := ⟨gb195, 4, none⟩) (Kd.R_far (p := ⟨gb195, 3, none⟩) (Kd.R_far (p := ⟨gb195, 2, none⟩) (Kd.R_far (p := ⟨gb195, 1, none⟩) (Kd.R_far (p := ⟨gb195, 0, none⟩) (Kd.R_types HO_3.out BK195.out (by decide)) (fun _ hk => hk.2) (.int .i64 ((rd_T29 l0_4 x13_1).f0))) (fun _ hk => hk.2) (.int .i64 ((rd_T29 l0_4 x13_1).f1))) (fun _ hk => hk.2) (.bool ((rd_T29 l0_4 x13_1).f2))) (fun _ hk => hk.2) (.slice A194_3 ((rd_T29 l0_4 x13_1).f3).length c194_3)) (fun _ hk => hk.2) (.slice A194_4 ((rd_T29 l0_4 x13_1).f4).length c194_4)) (fun _ h_ => h_.1))) (Kd.R_base ho0) hb); have n1_ := Aside0.mk (Kd.R_lower (Kd.R_new' ho0 (Kd.R_lt (by (with_reducible repeat (first | apply Kd.R_alloc | apply Kd.R_drewN | apply Kd.R_drew)); exact (Kd.R_mono (Kd.R_far (p := ⟨gb195, 4, none⟩) (Kd.R_far (p := ⟨gb195, 3, none⟩) (Kd.R_far (p := ⟨gb195, 2, none⟩) (Kd.R_far (p := ⟨gb195, 1, none⟩) (Kd.R_far (p := ⟨gb195, 0, none⟩) (Kd.R_types HO_3.out BK195.out (by decide)) (fun _ hk => hk.2) (.int .i64 ((rd_T29 l0_4 x13_1).f0))) (fun _ hk => hk.2) (.int .i64 ((rd_T29 l0_4 x13_1).f1))) (fun _ hk => hk.2) (.bool ((rd_T29 l0_4 x13_1).f2))) (fun _ hk => hk.2) (.slice A194_3 ((rd_T29 l0_4 x13_1).f3).length c194_3)) (fun _ hk => hk.2) (.slice A194_4 ((rd_T29 l0_4 x13_1).f4).length c194_4)) (fun _ h_ => h_.1))))) (below_size (by repeat (first | (with_reducible first | exact HB.out | apply below_alloc | apply pw_below_drewN | apply below_drew1 | refine below_set ?_ GE187.out | refine below_set ?_ GE195.out) | exact HB.out)))); have n2_ := Aside0.mk (blk_below (g := gb187) (o := .cells #[.int .i64 a0_0, .int .i64 a0_1, .bool a0_2, .slice A0_3 l0_3.length c0_3, .slice (some ad194) l0_4.length c0_4] 29 (0, 0)) (by (with_reducible repeat (first | refine blk_drewN ?_ _ | refine blk_drew ?_ | refine blk_alloc ?_ _)); refine blk_far ?_ NB187_195.out _; (with_reducible repeat (first | refine blk_drewN ?_ _ | refine blk_drew ?_ | refine blk_alloc ?_ _)); refine blk_far ?_ NB187_195.out _; (with_reducible repeat (first | refine blk_drewN ?_ _ | refine blk_drew ?_ | refine blk_alloc ?_ _)); refine blk_far ?_ NB187_195.out _; (with_reducible repeat (first | refine blk_drewN ?_ _ | refine blk_drew ?_ | refine blk_alloc ?_ _)); refine blk_far ?_ NB187_195.out _; (with_reducible repeat (first | refine blk_drewN ?_ _ | refine blk_drew ?_ | refine blk_alloc ?_ _)); refine blk_far ?_ NB187_195.out _; (with_reducible repeat (first | refine blk_drewN ?_ _ | refine blk_drew ?_ | refine blk_alloc ?_ _)); exact BK187.out) hb); have n3_ := Aside0.mk (blk_below (g := gb195) (o := .cells #[.int .i64 ((rd_T29 l0_4 x13_1).f0), .int .i64 ((rd_T29 l0_4 x13_1).f1), .bool ((rd_T29 l0_4 x13_1).f2), .slice A194_3 ((rd_T29 l0_4 x13_1).f3).length c194_3, .slice A194_4 ((rd_T29 l0_4 x13_1).f4).length c194_4] 29 (0, 0)) (by (with_reducible repeat (first | refine blk_drewN ?_ _ | refine blk_drew ?_ | refine blk_alloc ?_ _)); refine blk_put (cs := #[.int .i64 ((rd_T29 l0_4 x13_1).f0), .int .i64 ((rd_T29 l0_4 x13_1).f1), .bool ((rd_T29 l0_4 x13_1).f2), .slice A194_3 ((rd_T29 l0_4 x13_1).f3).length c194_3, .slice none 0 0]) ?_ 4 _ rfl; (with_reducible repeat (first | refine blk_drewN ?_ _ | refine blk_drew ?_ | refine blk_alloc ?_ _)); refine blk_put (cs := #[.int .i64 ((rd_T29 l0_4 x13_1).f0), .int .i64 ((rd_T29 l0_4 x13_1).f1), .bool ((rd_T29 l0_4 x13_1).f2), .slice none 0 0, .slice none 0 0]) ?_ 3 _ rfl; (with_reducible repeat (first | refine blk_drewN ?_ _ | refine blk_drew ?_ | refine blk_alloc ?_ _)); refine blk_put (cs := #[.int .i64 ((rd_T29 l0_4 x13_1).f0), .int .i64 ((rd_T29 l0_4 x13_1).f1), .bool false, .slice none 0 0, .slice none 0 0]) ?_ 2 _ rfl; (with_reducible repeat (first | refine blk_drewN ?_ _ | refine blk_drew ?_ | refine blk_alloc ?_ _)); refine blk_put (cs := #[.int .i64 ((rd_T29 l0_4 x13_1).f0), .int .i64 0, .bool false, .slice none 0 0, .slice none 0 0]) ?_ 1 _ rfl; (with_reducible repeat (first | refine blk_drewN ?_ _ | refine blk_drew ?_ | refine blk_alloc ?_ _)); refine blk_put (cs := #[.int .i64 0, .int .i64 0, .bool false, .slice none 0 0, .slice none 0 0]) ?_ 0 _ rfl; (with_reducible repeat (first | refine blk_drewN ?_ _ | refine blk_drew ?_ | refine blk_alloc ?_ _)); exact BK195.out) hb); have n4_ := Aside0.mk (below_step (by repeat (first | (with_reducible first | exact HB.out | apply below_alloc | apply pw_below_drewN | apply below_drew1 | refine below_set ?_ GE187.out | refine below_set ?_ GE195.out) | exact HB.out)) hb); clear HO_3; clear BK187; clear BK195; clear HB; have HO_3 := n0_; have HO198 := n1_; have BK187 := n2_; have BK195 := n3_; have HB := n4_; clear n0_ n1_ n2_ n3_ n4_; (try clear hb); (try clear hb2); (try clear hk); (try clear hi); (try clear ho0); obtain ⟨Ao19, co19, eo19⟩ := Kd.R_slice HO198.out; subst eo19) | ((with_reducible refine gate_builtin (b := .append) (xs := #[.tmp 17, .tmp 19]) rfl ?_); at_builtin; refine Kd.R_append_rows (Kd.int .u8) (w0 := w) w.heap.size rfl (.tmp 17) (.tmp 19) 22 5 (.int .u8 0) 1 rfl Tryd.underlying22 info5 rfl (by decide) (by omega) u3 x3_1 t196 _ _ _ (fun k_ => some k_ ≠ (.slice Ao19 t196.length co19 : Value).ownBlock) (fun _ => False) rfl rfl ?aO ?aR (fun _ _ h => h) (fun _ h => h.elim) ?aF ?aB ?aS ?aL ?_; (case aR => repeat (first | exact (Kd.R_reads' HO198.out).2.2 | (with_reducible refine Kd.C_alloc ?_ _) | (with_reducible refine Kd.C_drewN ?_ _) | (with_reducible refine Kd.C_drew ?_))); (case aB => exact (by repeat (first | (with_reducible first | exact HB.out | apply below_alloc | apply pw_below_drewN | apply below_drew1 | refine below_set ?_ GE187.out | refine below_set ?_ GE195.out) | exact HB.out))); (case aF => exact (fun k_ hk => Kd.fresh' (Kd.R_lt (by (with_reducible repeat (first | apply Kd.R_alloc | apply Kd.R_drewN | apply Kd.R_drew)); exact HO198.out)) k_ hk)); (case aO => exact (by (with_reducible repeat (first | apply Kd.R_alloc | apply Kd.R_drewN | apply Kd.R_drew)); exact Kd.R_mono HO_3.out (fun _ hk => hk.2))); (case aS => exact (below_size (by repeat (first | (with_reducible first | exact HB.out | apply below_alloc | apply pw_below_drewN | apply below_drew1 | refine below_set ?_ GE187.out | refine below_set ?_ GE195.out) | exact HB.out)))); (case aL => have := LMc13.out; omega); intro v200 w18 ho hb hg hat; rw [← Ny199.out] at ho; have n0_ := Aside0.mk (blk_grown (g := gb187) (o := .cells #[.int .i64 a0_0, .int .i64 a0_1, .bool a0_2, .slice A0_3 l0_3.length c0_3, .slice (some ad194) l0_4.length c0_4] 29 (0, 0)) (by (with_reducible repeat (first | refine blk_drewN ?_ _ | refine blk_drew ?_ | refine blk_alloc ?_ _)); exact BK187.out) hg (Kd.R_ne HO_3.out BK187.out (by decide))); have n1_ := Aside0.mk (blk_grown (g := gb195) (o := .cells #[.int .i64 ((rd_T29 l0_4 x13_1).f0), .int .i64 ((rd_T29 l0_4 x13_1).f1), .bool ((rd_T29 l0_4 x13_1).f2), .slice A194_3 ((rd_T29 l0_4 x13_1).f3).length c194_3, .slice A194_4 ((rd_T29 l0_4 x13_1).f4).length c194_4] 29 (0, 0)) (by (with_reducible repeat (first | refine blk_drewN ?_ _ | refine blk_drew ?_ | refine blk_alloc ?_ _)); exact BK195.out) hg (Kd.R_ne HO_3.out BK195.out (by decide))); have n2_ := Aside0.mk (Kd.R_after (ok := (fun _ => True)) (by (with_reducible repeat (first | apply Kd.R_alloc | apply Kd.R_drewN | apply Kd.R_drew)); exact HO198.out) hg hat); have n3_ := Aside0.mk (hb); have n4_ := Aside0.mk (ho); clear BK187; clear BK195; clear HO198; clear HB; clear HO_3; have BK187 := n0_; have BK195 := n1_; have HO198 := n2_; have HB := n3_; have HO201 := n4_; clear n0_ n1_ n2_ n3_ n4_; clear ho hb hg hat))
                go_roundg k1
                case measure => have := HK1.out; omega
                case rel => exact ⟨(y199), (wrap64 (x13_1 + 1)), (by first | rfl | (simp; done) | (simp [*]; done)), H', ⟨by have := HK1.out; omega⟩, ⟨by (with_reducible repeat (first | apply Kd.R_alloc | apply Kd.R_drewN | apply Kd.R_drew)); exact Kd.R_mono HO201.out (fun _ hk => trivial)⟩, ⟨by (with_reducible repeat (first | refine blk_drewN ?_ _ | refine blk_drew ?_ | refine blk_alloc ?_ _)); exact BK187.out⟩, ⟨by repeat (first | (with_reducible first | exact HB.out | apply below_alloc | apply pw_below_drewN | apply below_drew1 | refine below_set ?_ GE187.out | refine below_set ?_ GE195.out) | exact HB.out)⟩⟩
              · rw [if_neg c13] at H
                exact absurd H (by simp)
            · rw [if_neg c11] at H
              exact absurd H (by simp)
          · rw [if_neg c10] at H
            exact absurd H (by simp)
        · rw [if_neg c9] at H
          have c9b0 : decide (x13_1 < (l0_4.length : Int)) = false := decide_eq_false c9
          clear c9
          replace H := Option.bind_eq_some_iff.mp H
          obtain ⟨t202, A200, H⟩ := H
          replace H : ((spec_Length.f k1 (x3_1.length : Int)).bind fun t205 => (if t202.length + t205.length < 140737488355328 then ((some (t202 ++ t205 : List Int)).bind fun y208 => (if y208.length + x3_1.length < 140737488355328 then (some (y208 ++ x3_1)) else (none))) else (none))) = some r := H
          have A20 := Aside0.mk A200
          clear A200
          replace H := Option.bind_eq_some_iff.mp H
          obtain ⟨t205, A210, H⟩ := H
          replace H : (if t202.length + t205.length < 140737488355328 then ((some (t202 ++ t205 : List Int)).bind fun y208 => (if y208.length + x3_1.length < 140737488355328 then (some (y208 ++ x3_1)) else (none))) else (none)) = some r := H
          have A21 := Aside0.mk A210
          clear A210
          by_cases c22 : t202.length + t205.length < 140737488355328
          · rw [if_pos c22] at H
            have LMc22 := Aside0.mk c22
            clear c22
            obtain ⟨y208, hy208⟩ : ∃ y_ : List Int, y_ = (t202 ++ t205) := ⟨_, rfl⟩
            replace H : (if y208.length + x3_1.length < 140737488355328 then (some (y208 ++ x3_1)) else (none)) = some r := by first | (rw [hy208]; with_reducible exact H) | (have H2_ := (Option.bind_some _ _).symm.trans H; rw [hy208]; with_reducible exact H2_) | (have H2_ := (Option.bind_some _ _).symm.trans H; with_reducible exact H2_) | with_reducible exact H | (rw [hy208]; exact H) | exact H
            have Ny208 := Aside0.mk hy208
            clear hy208
            by_cases c23 : y208.length + x3_1.length < 140737488355328
            · rw [if_pos c23] at H
              have LMc23 := Aside0.mk c23
              clear c23
              obtain ⟨y211, hy211⟩ : ∃ y_ : List Int, y_ = (y208 ++ x3_1) := ⟨_, rfl⟩
              replace H : (some y211) = some r := by first | (rw [hy211]; with_reducible exact H) | (have H2_ := (Option.bind_some _ _).symm.trans H; rw [hy211]; with_reducible exact H2_) | (have H2_ := (Option.bind_some _ _).symm.trans H; with_reducible exact H2_) | with_reducible exact H | (rw [hy211]; exact H) | exact H
              have Ny211 := Aside0.mk hy211
              clear hy211
              obtain rfl := Option.some.inj H
              have hcz24_0 : wr.cell? ⟨gb187, 0, none⟩ = some (.int .i64 a0_0) := (blk_cell BK187.out 0).trans rfl
              have hcz24_1 : wr.cell? ⟨gb187, 1, none⟩ = some (.int .i64 a0_1) := (blk_cell BK187.out 1).trans rfl
              have hcz24_2 : wr.cell? ⟨gb187, 2, none⟩ = some (.bool a0_2) := (blk_cell BK187.out 2).trans rfl
              have hcz24_3 : wr.cell? ⟨gb187, 3, none⟩ = some (.slice A0_3 l0_3.length c0_3) := (blk_cell BK187.out 3).trans rfl
              have hcz24_4 : wr.cell? ⟨gb187, 4, none⟩ = some (.slice A0_4 l0_4.length c0_4) := (blk_cell BK187.out 4).trans rfl
              have hfz24_0 := blk_frozen BK187.out 0
              have hfz24_1 := blk_frozen BK187.out 1
              have hfz24_2 := blk_frozen BK187.out 2
              have hfz24_3 := blk_frozen BK187.out 3
              have hfz24_4 := blk_frozen BK187.out 4
              go_wp2_with (first | ((with_reducible refine gate_callee (f := 28) rfl ?_); refine goesL_ (some 23) rfl rfl Tryd.func28 (by kernel_rfl) rfl #[.agg #[.int .i64 a0_0, .int .i64 a0_1, .bool a0_2, .slice A0_3 l0_3.length c0_3, .slice A0_4 l0_4.length c0_4]] rfl (by (try simp only [List.map_toArray, List.map_cons, List.map_nil]); first | done | rfl | (simp only [List.length_drop, List.length_take]; rfl)) ?_; (with_reducible refine (spec_Identifier.calls k1 a0_0 a0_1 a0_2 _ _ l0_3 _ _ l0_4 t202 _ ?side1 ?side2 ?side3 ?side4 A20.out).mono ?_); (case side1 => repeat (first | exact (Kd.C_below HR0_3.out HB.out) | (with_reducible refine Kd.C_alloc ?_ _) | (with_reducible refine Kd.C_drewN ?_ _) | (with_reducible refine Kd.C_drew ?_))); (case side2 => exact HC0_3.out); (case side3 => repeat (first | exact (Kd.C_below HR0_4.out HB.out) | (with_reducible refine Kd.C_alloc ?_ _) | (with_reducible refine Kd.C_drewN ?_ _) | (with_reducible refine Kd.C_drew ?_))); (case side4 => exact HC0_4.out); rintro e w25 ⟨v203, rfl, ho0, hb⟩; refine ⟨_, rfl, ?_⟩; have n0_ := Aside0.mk (Kd.R_elder' (by (with_reducible repeat (first | apply Kd.R_alloc | apply Kd.R_drewN | apply Kd.R_drew)); exact HO_3.out) (Kd.R_base ho0) hb); have n1_ := Aside0.mk (Kd.R_lower (Kd.R_new' ho0 (Kd.R_lt (by (with_reducible repeat (first | apply Kd.R_alloc | apply Kd.R_drewN | apply Kd.R_drew)); exact HO_3.out))) (below_size (by repeat (first | (with_reducible first | exact HB.out | apply below_alloc | apply pw_below_drewN | apply below_drew1 | refine below_set ?_ GE187.out) | exact HB.out)))); have n2_ := Aside0.mk (blk_below (g := gb187) (o := .cells #[.int .i64 a0_0, .int .i64 a0_1, .bool a0_2, .slice A0_3 l0_3.length c0_3, .slice A0_4 l0_4.length c0_4] 29 (0, 0)) (by (with_reducible repeat (first | refine blk_drewN ?_ _ | refine blk_drew ?_ | refine blk_alloc ?_ _)); exact BK187.out) hb); have n3_ := Aside0.mk (below_step (by repeat (first | (with_reducible first | exact HB.out | apply below_alloc | apply pw_below_drewN | apply below_drew1 | refine below_set ?_ GE187.out) | exact HB.out)) hb); clear HO_3; clear BK187; clear HB; have HO_3 := n0_; have HO204 := n1_; have BK187 := n2_; have HB := n3_; clear n0_ n1_ n2_ n3_; (try clear hb); (try clear hb2); (try clear hk); (try clear hi); (try clear ho0); obtain ⟨Ao26, co26, eo26⟩ := Kd.R_slice HO_3.out; subst eo26) | ((with_reducible refine gate_callee (f := 29) rfl ?_); refine goesL_ (some 26) rfl rfl Tryd.func29 (by kernel_rfl) rfl #[.int .i64 (x3_1.length : Int)] rfl (by (try simp only [List.map_toArray, List.map_cons, List.map_nil]); first | done | rfl | (simp only [List.length_drop, List.length_take]; rfl)) ?_; (with_reducible refine (spec_Length.calls k1 (x3_1.length : Int) t205 _ A21.out).mono ?_); rintro e w27 ⟨v206, rfl, ho0, hb⟩; refine ⟨_, rfl, ?_⟩; have n0_ := Aside0.mk (Kd.R_elder' (by (with_reducible repeat (first | apply Kd.R_alloc | apply Kd.R_drewN | apply Kd.R_drew)); exact HO_3.out) (Kd.R_base ho0) hb); have n1_ := Aside0.mk (Kd.R_elder' (by (with_reducible repeat (first | apply Kd.R_alloc | apply Kd.R_drewN | apply Kd.R_drew)); exact HO204.out) (Kd.R_base ho0) hb); have n2_ := Aside0.mk (Kd.R_lower (Kd.R_new' (Kd.R_new' ho0 (Kd.R_lt (by (with_reducible repeat (first | apply Kd.R_alloc | apply Kd.R_drewN | apply Kd.R_drew)); exact HO_3.out))) (Kd.R_lt (by (with_reducible repeat (first | apply Kd.R_alloc | apply Kd.R_drewN | apply Kd.R_drew)); exact HO204.out))) (below_size (by repeat (first | (with_reducible first | exact HB.out | apply below_alloc | apply pw_below_drewN | apply below_drew1 | refine below_set ?_ GE187.out) | exact HB.out)))); have n3_ := Aside0.mk (blk_below (g := gb187) (o := .cells #[.int .i64 a0_0, .int .i64 a0_1, .bool a0_2, .slice A0_3 l0_3.length c0_3, .slice A0_4 l0_4.length c0_4] 29 (0, 0)) (by (with_reducible repeat (first | refine blk_drewN ?_ _ | refine blk_drew ?_ | refine blk_alloc ?_ _)); exact BK187.out) hb); have n4_ := Aside0.mk (below_step (by repeat (first | (with_reducible first | exact HB.out | apply below_alloc | apply pw_below_drewN | apply below_drew1 | refine below_set ?_ GE187.out) | exact HB.out)) hb); clear HO_3; clear HO204; clear BK187; clear HB; have HO_3 := n0_; have HO204 := n1_; have HO207 := n2_; have BK187 := n3_; have HB := n4_; clear n0_ n1_ n2_ n3_ n4_; (try clear hb); (try clear hb2); (try clear hk); (try clear hi); (try clear ho0); obtain ⟨Ao29, co29, eo29⟩ := Kd.R_slice HO207.out; subst eo29) | ((with_reducible refine gate_builtin (b := .append) (xs := #[.tmp 23, .tmp 26]) rfl ?_); at_builtin; refine Kd.R_append_rows (Kd.int .u8) (w0 := w) w.heap.size rfl (.tmp 23) (.tmp 26) 22 5 (.int .u8 0) 1 rfl Tryd.underlying22 info5 rfl (by decide) (by omega) v203 t202 t205 _ _ _ (fun k_ => some k_ ≠ (.slice Ao26 x3_1.length co26 : Value).ownBlock ∧ some k_ ≠ (.slice Ao29 t205.length co29 : Value).ownBlock) (fun _ => False) rfl rfl ?aO ?aR (fun _ _ h => h) (fun _ h => h.elim) ?aF ?aB ?aS ?aL ?_; (case aR => repeat (first | exact (Kd.R_reads' HO207.out).2.2 | (with_reducible refine Kd.C_alloc ?_ _) | (with_reducible refine Kd.C_drewN ?_ _) | (with_reducible refine Kd.C_drew ?_))); (case aB => exact (by repeat (first | (with_reducible first | exact HB.out | apply below_alloc | apply pw_below_drewN | apply below_drew1 | refine below_set ?_ GE187.out) | exact HB.out))); (case aF => exact (fun k_ hk => ⟨Kd.fresh' (Kd.R_lt (by (with_reducible repeat (first | apply Kd.R_alloc | apply Kd.R_drewN | apply Kd.R_drew)); exact HO_3.out)) k_ hk, Kd.fresh' (Kd.R_lt (by (with_reducible repeat (first | apply Kd.R_alloc | apply Kd.R_drewN | apply Kd.R_drew)); exact HO207.out)) k_ hk⟩)); (case aO => exact (by (with_reducible repeat (first | apply Kd.R_alloc | apply Kd.R_drewN | apply Kd.R_drew)); exact Kd.R_mono HO204.out (fun _ hk => ⟨hk.1.2, hk.2⟩))); (case aS => exact (below_size (by repeat (first | (with_reducible first | exact HB.out | apply below_alloc | apply pw_below_drewN | apply below_drew1 | refine below_set ?_ GE187.out) | exact HB.out)))); (case aL => have := LMc22.out; omega); intro v209 w28 ho hb hg hat; rw [← Ny208.out] at ho; have n0_ := Aside0.mk (Kd.R_after (ok := (fun k_ => some k_ ≠ (.slice Ao29 t205.length co29 : Value).ownBlock)) (by (with_reducible repeat (first | apply Kd.R_alloc | apply Kd.R_drewN | apply Kd.R_drew)); exact Kd.R_mono HO_3.out (fun _ hk => ⟨hk.2, hk.1.2⟩)) hg hat); have n1_ := Aside0.mk (blk_grown (g := gb187) (o := .cells #[.int .i64 a0_0, .int .i64 a0_1, .bool a0_2, .slice A0_3 l0_3.length c0_3, .slice A0_4 l0_4.length c0_4] 29 (0, 0)) (by (with_reducible repeat (first | refine blk_drewN ?_ _ | refine blk_drew ?_ | refine blk_alloc ?_ _)); exact BK187.out) hg (Kd.R_ne HO204.out BK187.out (by decide))); have n2_ := Aside0.mk (Kd.R_after (ok := (fun k_ => some k_ ≠ (.slice Ao26 x3_1.length co26 : Value).ownBlock)) (by (with_reducible repeat (first | apply Kd.R_alloc | apply Kd.R_drewN | apply Kd.R_drew)); exact Kd.R_mono HO207.out (fun _ hk => ⟨hk.1.2, hk.2⟩)) hg hat); have n3_ := Aside0.mk (hb); have n4_ := Aside0.mk (ho); clear HO_3; clear BK187; clear HO207; clear HB; clear HO204; have HO_3 := n0_; have BK187 := n1_; have HO207 := n2_; have HB := n3_; have HO210 := n4_; clear n0_ n1_ n2_ n3_ n4_; clear ho hb hg hat) | ((with_reducible refine gate_builtin (b := .append) (xs := #[.tmp 27, .tmp 28]) rfl ?_); at_builtin; refine Kd.R_append_rows (Kd.int .u8) (w0 := w) w.heap.size rfl (.tmp 27) (.tmp 28) 22 5 (.int .u8 0) 1 rfl Tryd.underlying22 info5 rfl (by decide) (by omega) v209 y208 x3_1 _ _ _ (fun k_ => some k_ ≠ (.slice Ao26 x3_1.length co26 : Value).ownBlock ∧ some k_ ≠ (.slice Ao29 t205.length co29 : Value).ownBlock) (fun _ => False) rfl rfl ?aO ?aR (fun _ _ h => h) (fun _ h => h.elim) ?aF ?aB ?aS ?aL ?_; (case aR => repeat (first | exact (Kd.R_reads' HO_3.out).2.2 | (with_reducible refine Kd.C_alloc ?_ _) | (with_reducible refine Kd.C_drewN ?_ _) | (with_reducible refine Kd.C_drew ?_))); (case aB => exact (by repeat (first | (with_reducible first | exact HB.out | apply below_alloc | apply pw_below_drewN | apply below_drew1 | refine below_set ?_ GE187.out) | exact HB.out))); (case aF => exact (fun k_ hk => ⟨Kd.fresh' (Kd.R_lt (by (with_reducible repeat (first | apply Kd.R_alloc | apply Kd.R_drewN | apply Kd.R_drew)); exact HO_3.out)) k_ hk, Kd.fresh' (Kd.R_lt (by (with_reducible repeat (first | apply Kd.R_alloc | apply Kd.R_drewN | apply Kd.R_drew)); exact HO207.out)) k_ hk⟩)); (case aO => exact (by (with_reducible repeat (first | apply Kd.R_alloc | apply Kd.R_drewN | apply Kd.R_drew)); exact HO210.out)); (case aS => exact (below_size (by repeat (first | (with_reducible first | exact HB.out | apply below_alloc | apply pw_below_drewN | apply below_drew1 | refine below_set ?_ GE187.out) | exact HB.out)))); (case aL => have := LMc23.out; omega); intro v212 w30 ho hb hg hat; rw [← Ny211.out] at ho; have n0_ := Aside0.mk (Kd.R_after (ok := (fun k_ => some k_ ≠ (.slice Ao29 t205.length co29 : Value).ownBlock)) (by (with_reducible repeat (first | apply Kd.R_alloc | apply Kd.R_drewN | apply Kd.R_drew)); exact HO_3.out) hg hat); have n1_ := Aside0.mk (blk_grown (g := gb187) (o := .cells #[.int .i64 a0_0, .int .i64 a0_1, .bool a0_2, .slice A0_3 l0_3.length c0_3, .slice A0_4 l0_4.length c0_4] 29 (0, 0)) (by (with_reducible repeat (first | refine blk_drewN ?_ _ | refine blk_drew ?_ | refine blk_alloc ?_ _)); exact BK187.out) hg (Kd.R_ne HO210.out BK187.out (by decide))); have n2_ := Aside0.mk (Kd.R_after (ok := (fun k_ => some k_ ≠ (.slice Ao26 x3_1.length co26 : Value).ownBlock)) (by (with_reducible repeat (first | apply Kd.R_alloc | apply Kd.R_drewN | apply Kd.R_drew)); exact HO207.out) hg hat); have n3_ := Aside0.mk (hb); have n4_ := Aside0.mk (ho); clear HO_3; clear BK187; clear HO207; clear HB; clear HO210; have HO_3 := n0_; have BK187 := n1_; have HO207 := n2_; have HB := n3_; have HO213 := n4_; clear n0_ n1_ n2_ n3_ n4_; clear ho hb hg hat))
              go_ret
              exact ⟨_, by first | rfl | (simp [errW_none, errW_some] <;> rfl) | (simp [*, errW_none, errW_some] <;> rfl), by (with_reducible repeat (first | apply Kd.R_alloc | apply Kd.R_drewN | apply Kd.R_drew)); exact Kd.R_mono HO213.out (fun _ hk => trivial), by repeat (first | (with_reducible first | exact HB.out | apply below_alloc | apply pw_below_drewN | apply below_drew1 | refine below_set ?_ GE187.out) | exact HB.out)⟩
            · rw [if_neg c23] at H
              exact absurd H (by simp)
          · rw [if_neg c22] at H
            exact absurd H (by simp)
  · rw [if_neg c2] at H
    exact absurd H (by simp)

end Go.Proofs.YtejbpbdlolehnaaDoor.PFnEncode
namespace Go.Proofs.YtejbpbdlolehnaaDoor.Within
open Go.RowKit Go.Proofs.YtejbpbdlolehnaaDoorW.PrintWords Go.Proofs.YtejbpbdlolehnaaDoor.PFnEncode Go.Proofs.YtejbpbdlolehnaaDoor.Tree Go.Proofs.YtejbpbdlolehnaaDoor.Buf
set_option linter.unusedVariables false
set_option linter.unusedSimpArgs false

/-- The reference's packet whose data lie where they lay in w0, its kids made. -/
def Fm (w0 : World) (d : Kd S29) : Kd S29 := Kd.iso (Kd.pair (Kd.int .i64) (Kd.pair (Kd.int .i64) (Kd.pair Kd.bool (Kd.pair (Kd.fixed (Kd.slice 5 (Kd.int .u8)) w0) (Kd.slice 29 d))))) (fun x : S29 => (x.f0, x.f1, x.f2, x.f3, x.f4))
theorem mono_m (w0 : World) : Kd.Mono (Fm w0) := Kd.mono_iso _ (Kd.mono_pair (Kd.mono_const _) (Kd.mono_pair (Kd.mono_const _) (Kd.mono_pair (Kd.mono_const _) (Kd.mono_pair (Kd.mono_const _) (Kd.mono_slice 29 Kd.mono_id)))))
theorem sub_m (w0 : World) : Kd.Sub (Fm w0) [5, 29] := Kd.sub_iso _ (Kd.sub_pair (Kd.sub_const _ (by decide)) (Kd.sub_pair (Kd.sub_const _ (by decide)) (Kd.sub_pair (Kd.sub_const _ (by decide)) (Kd.sub_pair (Kd.sub_const _ (fun _ h => absurd h List.not_mem_nil)) (Kd.sub_slice 29 (by decide) Kd.sub_id)))))
theorem sz_m (w0 : World) : ∀ n, (Kd.upto (Fm w0) 5 [5, 29] n).sz = 5 := Kd.upto_sz (fun _ => rfl)
def km (w0 : World) : Kd S29 := Kd.fix (Fm w0) 5 [5, 29] (sz_m w0) (Kd.upto_E (sub_m w0))

theorem km_mkM (w0 w : World) (base : Nat) (ok : Nat → Prop) (x : S29) {A3 : Option Addr} {c3 : Nat} (l3 : x.f3.length ≤ c3) (g3 : (Kd.int .u8).C w0 A3 x.f3.length x.f3) {v4 : Value} (g4 : (km w0).R 29 w base ok v4 x.f4) : (km w0).M w base ok x [.int .i64 x.f0, .int .i64 x.f1, .bool x.f2, .slice A3 x.f3.length c3, v4] := by
  obtain ⟨n4, r4⟩ := Kd.fix_R_back (mono_m w0) g4
  exact ⟨n4 + 1, ⟨[.int .i64 x.f0], [.int .i64 x.f1, .bool x.f2, .slice A3 x.f3.length c3, v4], rfl, rfl, ⟨[.int .i64 x.f1], [.bool x.f2, .slice A3 x.f3.length c3, v4], rfl, rfl, ⟨[.bool x.f2], [.slice A3 x.f3.length c3, v4], rfl, rfl, ⟨[.slice A3 x.f3.length c3], [v4], rfl, ⟨A3, c3, rfl, l3, g3⟩, ⟨v4, rfl, r4⟩⟩⟩⟩⟩⟩
theorem km_openM {w0 w : World} {base : Nat} {ok : Nat → Prop} {x : S29} {cs : List Value} (h : (km w0).M w base ok x cs) : ∃ A3 c3 v4, cs = [.int .i64 x.f0, .int .i64 x.f1, .bool x.f2, .slice A3 x.f3.length c3, v4] ∧ x.f3.length ≤ c3 ∧ (Kd.int .u8).C w0 A3 x.f3.length x.f3 ∧ (km w0).R 29 w base ok v4 x.f4 := by
  obtain ⟨n, h⟩ := h
  cases n with
  | zero => exact h.elim
  | succ n =>
    obtain ⟨_, _, rfl, rfl, ⟨_, _, rfl, rfl, ⟨_, _, rfl, rfl, ⟨_, _, rfl, ⟨A3, c3, rfl, l3, g3⟩, ⟨v4, rfl, g4⟩⟩⟩⟩⟩ := h
    exact ⟨A3, c3, v4, rfl, l3, g3, Kd.fix_R g4⟩

/-- .. read now, as the print's kind reads it. -/
theorem km_read {w0 w : World} (hb : Below w0.heap.size w0 w) : ∀ {x : S29} {cs : List Value}, (km w0).K w x cs → k29.K w x cs := by
  have : ∀ n (x : S29) (cs : List Value), (Kd.upto (Fm w0) 5 [5, 29] n).K w x cs → (Kd.upto F29 5 [5, 29] n).K w x cs := by
    intro n
    induction n with
    | zero => intro x cs h; exact h
    | succ n ih =>
      rintro x cs ⟨_, _, rfl, rfl, ⟨_, _, rfl, rfl, ⟨_, _, rfl, rfl, ⟨_, _, rfl, ⟨A3, c3, rfl, l3, g3⟩, ⟨A4, c4, rfl, l4, g4⟩⟩⟩⟩⟩
      exact ⟨_, _, rfl, rfl, ⟨_, _, rfl, rfl, ⟨_, _, rfl, rfl, ⟨_, _, rfl, ⟨A3, c3, rfl, l3, Kd.C_below g3 hb⟩, ⟨A4, c4, rfl, l4, Kd.C_read ((sz_m w0 n).trans (sz29 n).symm) ih g4⟩⟩⟩⟩⟩
  rintro x cs ⟨n, h⟩
  exact ⟨n, this n x cs h⟩

mutual
/-- no row is longer than Go's memory -/
def lens : S25 → Bool
  | ⟨_, _, _, d, l⟩ => decide (d.length ≤ reachBytes) && decide (l.length ≤ reachBytes) && lensL l
def lensL : List S25 → Bool
  | [] => true
  | x :: xs => lens x && lensL xs
end
theorem lensL_all (l : List S25) : lensL l = l.all lens := by
  induction l with
  | nil => rfl
  | cons x xs ih => rw [lensL, ih]; rfl

/-- What a call of within leaves: the packet x, r of room. -/
def Read (w0 w : World) (g : Nat) (x : S29) (r : Int) (e : Ending) (w' : World) : Prop :=
  ∃ c, e = .returned (.agg c.toArray) ∧ (km w0).M w' w.heap.size (fun _ => True) x c ∧ w'.heap[g]? = some (.cells #[.int .i64 r] 3 (0, 0)) ∧ Only (fun i => i = g) w w'

theorem results_c {P : Program} {fn : Func} {p : Tmp} {ty : TypeId} (h : fn.results = #[.cell p ty]) (tmps : Array Value) (w : World) (g : Nat) (t : TypeId) (cs : Array Value) (fr : Nat × Nat) (d : TypeDesc)
    (hp : tmps.getD p undef = .pointer (some ⟨g, 0, none⟩)) (hg : w.heap[g]? = some (.cells cs t fr))
    (hu : P.underlying ty = some d) (hd : (match d with | .struct _ | .array _ _ => true | _ => false) = true) (hi : (P.info? ty).map (·.size) = some cs.size) :
    (results fn tmps).run P w = .ok (.agg cs) w := by
  have hp' : tmps[p]?.getD undef = .pointer (some ⟨g, 0, none⟩) := by simpa using hp
  simp [results, h, hp', asAddr, run_loadVar_row w g t ty cs fr d hg hu hd hi]
theorem info29 : (Tryd.prog.info? 29).map (fun i => (i.zero, i.size, i.bytes)) = some (some (.agg #[.int .i64 0, .int .i64 0, .bool false, .slice none 0 0, .slice none 0 0]), 5, 72) := by kernel_rfl
theorem size29 : (Tryd.prog.info? 29).map (·.size) = some 5 := by kernel_rfl

/-- the end with a packet that is none -/
theorem bad_end {w0 w W2 W3 : World} {g : Nat} {r' : Int} {n : Nat} {z0 z1 z2 z3 z4 : Value} (hon : Only (fun i => i = g) w W2) (hrm : W2.heap[g]? = some (.cells #[.int .i64 r'] 3 (0, 0))) (hres : W2.heap[n]? = some (.cells #[z0, z1, z2, z3, z4] 29 (0, 0))) (hng : w.heap.size ≤ n) (hgn : g ≠ n)
    (hW3 : W3 = (((((W2.setCell ⟨n, 0, none⟩ (.int .i64 (-1))).setCell ⟨n, 1, none⟩ (.int .i64 0)).setCell ⟨n, 2, none⟩ (.bool false)).setCell ⟨n, 3, none⟩ (.slice none 0 0)).setCell ⟨n, 4, none⟩ (.slice none 0 0))) :
    W3.heap[n]? = some (.cells #[.int .i64 (-1), .int .i64 0, .bool false, .slice none 0 0, .slice none 0 0] 29 (0, 0)) ∧ Read w0 w g bad r' (.returned (.agg #[.int .i64 (-1), .int .i64 0, .bool false, .slice none 0 0, .slice none 0 0])) W3 := by
  have h1 := blk_set hres 0 (.int .i64 (-1))
  have h2 := blk_set h1 1 (.int .i64 0)
  have h3 := blk_set h2 2 (.bool false)
  have h4 := blk_set h3 3 (.slice none 0 0)
  have h5 := blk_set h4 4 (.slice none 0 0)
  rw [← hW3] at h5
  have hr : W3.heap[g]? = some (.cells #[.int .i64 r'] 3 (0, 0)) := by
    rw [hW3]
    exact blk_far (blk_far (blk_far (blk_far (blk_far hrm (p := ⟨n, 0, none⟩) hgn _) (p := ⟨n, 1, none⟩) hgn _) (p := ⟨n, 2, none⟩) hgn _) (p := ⟨n, 3, none⟩) hgn _) (p := ⟨n, 4, none⟩) hgn _
  have hlt : ∀ k : Nat, (⟨n, k, none⟩ : Addr).block < w.heap.size → (⟨n, k, none⟩ : Addr).block = g := fun k h => absurd h (by show ¬ n < w.heap.size; omega)
  refine ⟨h5, _, rfl, km_mkM w0 W3 w.heap.size _ bad (A3 := none) (c3 := 0) (Nat.le_refl _) ⟨rfl, by simp [bad], fun h => absurd h (by decide)⟩ (Kd.R_nil _ _ _ _ _), hr, ?_⟩
  rw [hW3]
  exact ((((hon.setCell (hlt 0) _).setCell (hlt 1) _).setCell (hlt 2) _).setCell (hlt 3) _).setCell (hlt 4) _

theorem wi_le : ∀ (d : Nat) (p : S25) (r : Int), (wi d p r).2 ≤ r - 1 := by
  intro d
  induction d with
  | zero => intro p r; rw [wi]; show r - (1 + (p.f3.length : Int)) ≤ _; omega
  | succ d ih =>
    have hl : ∀ (p : S25) (ks : List S25) (acc : List S29) (r : Int), (wiL d p ks acc r).2 ≤ r := by
      intro p ks
      induction ks with
      | nil => intro acc r; rw [wiL]; exact Int.le_refl _
      | cons k ks ihk =>
        intro acc r
        rw [wiL]
        split
        · exact Int.le_refl _
        · have h1 := ihk (acc ++ [(wi d k r).1]) (wi d k r).2
          have h2 := ih k r
          omega
    intro p r
    rw [wi]
    split
    · show r - (1 + (p.f3.length : Int)) ≤ _; omega
    · have := hl p p.f4 [] (r - (1 + (p.f3.length : Int)))
      omega

/-- what stands at the loop's head -/
structure Inv (w0 w W : World) (g : Nat) (p : S25) (A3 : Option Addr) (c3 : Nat) (rr : Int) (v : Value) (acc : List S29) : Prop where
  on : Only (fun i => i = g) w W
  rm : W.heap[g]? = some (.cells #[.int .i64 rr] 3 (0, 0))
  res : W.heap[w.heap.size + 1]? = some (.cells #[.int .i64 0, .int .i64 0, .bool false, .slice none 0 0, .slice none 0 0] 29 (0, 0))
  out : W.heap[w.heap.size + 2]? = some (.cells #[.int .i64 p.f0, .int .i64 p.f1, .bool p.f2, .slice A3 p.f3.length c3, v] 29 (0, 0))
  row : (km w0).R 29 W w.heap.size (fun k => k ≠ w.heap.size + 1 ∧ k ≠ w.heap.size + 2) v acc

section
variable {w0 w W W' : World} {g : Nat} {p : S25} {A3 : Option Addr} {c3 : Nat} {rr : Int} {v : Value} {acc : List S29}
theorem Inv.step (I : Inv w0 w W g p A3 c3 rr v acc) (hb : Below W.heap.size W W') : Inv w0 w W' g p A3 c3 rr v acc :=
  ⟨I.on.trans (Only.of_below _ hb) (fun _ _ h => h), blk_below I.rm hb, blk_below I.res hb, blk_below I.out hb, Kd.R_below I.row hb⟩
theorem Inv.read (I : Inv w0 w W g p A3 c3 rr v acc) (hgw : g < w.heap.size) {x : S29} {r2 : Int} {e : Ending} (h : Read w0 W g x r2 e W') :
    ∃ c, e = .returned (.agg c.toArray) ∧ Inv w0 w W' g p A3 c3 r2 v acc ∧ (km w0).M W' w.heap.size (fun k => W.heap.size ≤ k) x c := by
  obtain ⟨c, he, hM, hrm, hon⟩ := h
  have hl1 := blk_lt I.res
  have hl2 := blk_lt I.out
  refine ⟨c, he, ⟨I.on.trans hon (fun _ _ h => h), hrm, (hon.block _ hl1 (by show ¬ _ = g; omega)).trans I.res, (hon.block _ hl2 (by show ¬ _ = g; omega)).trans I.out, ?_⟩, ?_⟩
  · refine Kd.R_mono (Kd.R_move (Kd.R_bound I.row) (fun k hk => hon.block k hk.2.2.1 (by have := hk.2.1; show ¬ k = g; omega))) (fun k hk => hk.1)
  · exact (km w0).M_lower (by omega) ((km w0).M_mono (fun k hk => hk.2.1) ((km w0).M_bound hM))
theorem Inv.vlt (I : Inv w0 w W g p A3 c3 rr v acc) : ∀ k, v.ownBlock = some k → k < W.heap.size := fun k hk => own_lt I.row.2.choose_spec.1 k hk
theorem Inv.okp (I : Inv w0 w W g p A3 c3 rr v acc) (hgw : g < w.heap.size) : ∀ k, W.heap.size ≤ k → (k ≠ w.heap.size + 1 ∧ k ≠ w.heap.size + 2) ∧ some k ≠ v.ownBlock := fun k hk => by
  have hl1 := blk_lt I.res
  have hl2 := blk_lt I.out
  refine ⟨⟨by omega, by omega⟩, fun e => ?_⟩
  have := I.vlt k e.symm
  omega
theorem Inv.fresh (I : Inv w0 w W g p A3 c3 rr v acc) : ∀ k, W.heap.size ≤ k → k ≠ w.heap.size + 1 ∧ k ≠ w.heap.size + 2 := fun k hk => by
  have hl1 := blk_lt I.res
  have hl2 := blk_lt I.out
  exact ⟨by omega, by omega⟩
theorem Inv.ne (I : Inv w0 w W g p A3 c3 rr v acc) : some (w.heap.size + 2) ≠ v.ownBlock := fun e => (I.row.1 _ e.symm).2 rfl
theorem Inv.app (I : Inv w0 w W g p A3 c3 rr v acc) (hgw : g < w.heap.size) {x : S29} {v1 : Value} (hg : W.grownBy W' v.ownBlock) (hat : v1.ownBlock = v.ownBlock ∨ ∃ b, v1.ownBlock = some b ∧ W.heap.size ≤ b) (hR : (km w0).R 29 W' w.heap.size (fun k => k ≠ w.heap.size + 1 ∧ k ≠ w.heap.size + 2) v1 (acc ++ [x])) :
    Inv w0 w (W'.setCell ⟨w.heap.size + 2, 4, none⟩ v1) g p A3 c3 rr v1 (acc ++ [x]) := by
  have hb : ∀ k, v.ownBlock = some k → w.heap.size ≤ k ∧ k ≠ w.heap.size + 1 ∧ k ≠ w.heap.size + 2 := fun k hk => ⟨own_base I.row.2.choose_spec.1 k hk, I.row.1 k hk⟩
  have hne : ∀ i, i < w.heap.size ∨ i = w.heap.size + 1 ∨ i = w.heap.size + 2 → some i ≠ v.ownBlock := fun i hi e => by
    have := hb i e.symm
    omega
  refine ⟨?_, blk_far (blk_grown I.rm hg (hne g (.inl hgw))) (by show g ≠ w.heap.size + 2; omega) _, blk_far (blk_grown I.res hg (hne _ (.inr (.inl rfl)))) (by show w.heap.size + 1 ≠ w.heap.size + 2; omega) _, ?_, Kd.R_far hR (fun k hk => hk.2) _⟩
  · refine Only.setCell ?_ (a := ⟨w.heap.size + 2, 4, none⟩) (fun h => absurd h (by show ¬ w.heap.size + 2 < w.heap.size; omega)) _
    exact ⟨hg.os.trans I.on.os, hg.tape.trans I.on.tape, hg.output.trans I.on.output, Nat.le_trans I.on.size hg.size, fun i hi hn => (hg.block i (by have := I.on.size; omega) (hne i (.inl hi))).trans (I.on.block i hi hn)⟩
  · exact blk_set (blk_grown I.out hg (hne _ (.inr (.inr rfl)))) 4 v1
end
/-- the end with the packet that was read -/
theorem out_end {w0 w W W3 : World} {g : Nat} {p : S25} {A3 : Option Addr} {c3 : Nat} {rr : Int} {v : Value} {acc : List S29} (I : Inv w0 w W g p A3 c3 rr v acc) (hgw : g < w.heap.size) (l3 : p.f3.length ≤ c3) (h3 : (Kd.int .u8).C w0 A3 p.f3.length p.f3)
    (hW3 : W3 = (((((W.setCell ⟨w.heap.size + 1, 0, none⟩ (.int .i64 p.f0)).setCell ⟨w.heap.size + 1, 1, none⟩ (.int .i64 p.f1)).setCell ⟨w.heap.size + 1, 2, none⟩ (.bool p.f2)).setCell ⟨w.heap.size + 1, 3, none⟩ (.slice A3 p.f3.length c3)).setCell ⟨w.heap.size + 1, 4, none⟩ v)) :
    W3.heap[w.heap.size + 1]? = some (.cells #[.int .i64 p.f0, .int .i64 p.f1, .bool p.f2, .slice A3 p.f3.length c3, v] 29 (0, 0)) ∧ Read w0 w g ⟨p.f0, p.f1, p.f2, p.f3, acc⟩ rr (.returned (.agg #[.int .i64 p.f0, .int .i64 p.f1, .bool p.f2, .slice A3 p.f3.length c3, v])) W3 := by
  have h1 := blk_set I.res 0 (.int .i64 p.f0)
  have h2 := blk_set h1 1 (.int .i64 p.f1)
  have h3' := blk_set h2 2 (.bool p.f2)
  have h4 := blk_set h3' 3 (.slice A3 p.f3.length c3)
  have h5 := blk_set h4 4 v
  rw [← hW3] at h5
  have hgn : g ≠ w.heap.size + 1 := by omega
  have hr : W3.heap[g]? = some (.cells #[.int .i64 rr] 3 (0, 0)) := by
    rw [hW3]
    exact blk_far (blk_far (blk_far (blk_far (blk_far I.rm (p := ⟨w.heap.size + 1, 0, none⟩) hgn _) (p := ⟨w.heap.size + 1, 1, none⟩) hgn _) (p := ⟨w.heap.size + 1, 2, none⟩) hgn _) (p := ⟨w.heap.size + 1, 3, none⟩) hgn _) (p := ⟨w.heap.size + 1, 4, none⟩) hgn _
  have hlt : ∀ k : Nat, (⟨w.heap.size + 1, k, none⟩ : Addr).block < w.heap.size → (⟨w.heap.size + 1, k, none⟩ : Addr).block = g := fun k h => absurd h (by show ¬ w.heap.size + 1 < w.heap.size; omega)
  refine ⟨h5, _, rfl, km_mkM w0 W3 w.heap.size _ ⟨p.f0, p.f1, p.f2, p.f3, acc⟩ l3 h3 ?_, hr, ?_⟩
  · rw [hW3]
    refine Kd.R_mono (ok := fun k => k ≠ w.heap.size + 1 ∧ k ≠ w.heap.size + 2) ?_ (fun _ _ => trivial)
    exact Kd.R_far (Kd.R_far (Kd.R_far (Kd.R_far (Kd.R_far I.row (p := ⟨w.heap.size + 1, 0, none⟩) (fun k hk => hk.1) _) (p := ⟨w.heap.size + 1, 1, none⟩) (fun k hk => hk.1) _) (p := ⟨w.heap.size + 1, 2, none⟩) (fun k hk => hk.1) _) (p := ⟨w.heap.size + 1, 3, none⟩) (fun k hk => hk.1) _) (p := ⟨w.heap.size + 1, 4, none⟩) (fun k hk => hk.1) _
  · rw [hW3]
    exact ((((I.on.setCell (hlt 0) _).setCell (hlt 1) _).setCell (hlt 2) _).setCell (hlt 3) _).setCell (hlt 4) _

set_option maxHeartbeats 6400000 in
set_option maxRecDepth 100000 in
theorem within_any (w0 : World) : ∀ (d : Nat), d ≤ 100 → ∀ (p : S25) (A3 : Option Addr) (c3 : Nat) (A4 : Option Addr) (c4 : Nat) (r : Int) (g : Nat) (w : World), (Kd.int .u8).C w0 A3 p.f3.length p.f3 → p.f3.length ≤ c3 → k25.C w0 A4 p.f4.length p.f4 → p.f4.length ≤ c4 → lens p = true →
    0 ≤ r → r ≤ 1000000 → w.heap[g]? = some (.cells #[.int .i64 r] 3 (0, 0)) → w0.heap.size ≤ g → Below w0.heap.size w0 w →
    Calls Tryd.prog 16 #[.agg #[.int .i64 p.f0, .int .i64 p.f1, .bool p.f2, .slice A3 p.f3.length c3, .slice A4 p.f4.length c4], .int .i64 d, .pointer (some ⟨g, 0, none⟩)] w (Read w0 w g (wi d p r).1 (wi d p r).2) := by
  intro d
  induction d using Nat.strongRecOn with
  | _ d ih' =>
    intro hd p A3 c3 A4 c4 r g w h3 l3 h4 l4 hln hr0 hr1 hg hg0 hB
    have hlp : p.f3.length ≤ reachBytes ∧ p.f4.length ≤ reachBytes ∧ lensL p.f4 = true := by
      obtain ⟨a, b, c, dd, l⟩ := p
      rw [lens] at hln
      simpa [and_assoc] using hln
    have hrb : reachBytes = 140737488351232 := by decide
    have hgw := blk_lt hg
    have H3 := Lib.hid h3
    have H4 := Lib.hid h4
    have HB := Lib.hid hB
    have HG := Lib.hid hg
    have HG0 := Lib.hid hg0
    have HLN := Lib.hid hlp.2.2
    obtain ⟨hl3, hl4, _⟩ := hlp
    clear h3 h4 hB hln hg hg0
    obtain ⟨fin, hfin0⟩ : ∃ fin, fin = wi d p r := ⟨_, rfl⟩
    rw [← hfin0]
    go_enter Tryd.func16, Tryd.ntmps16
    go_wp2
    have hbx0 := heap_alloc_new w (.cells #[.int .i64 p.f0, .int .i64 p.f1, .bool p.f2, .slice A3 p.f3.length c3, .slice A4 p.f4.length c4] 25)
    have hres0 := heap_alloc_new (w.alloc (.cells #[.int .i64 p.f0, .int .i64 p.f1, .bool p.f2, .slice A3 p.f3.length c3, .slice A4 p.f4.length c4] 25)) (.cells #[.int .i64 0, .int .i64 0, .bool false, .slice none 0 0, .slice none 0 0] 29)
    have hs1 : (w.alloc (.cells #[.int .i64 p.f0, .int .i64 p.f1, .bool p.f2, .slice A3 p.f3.length c3, .slice A4 p.f4.length c4] 25)).heap.size = w.heap.size + 1 := by simp
    obtain ⟨W1, hW1⟩ : ∃ W1, W1 = (w.alloc (.cells #[.int .i64 p.f0, .int .i64 p.f1, .bool p.f2, .slice A3 p.f3.length c3, .slice A4 p.f4.length c4] 25)).alloc (.cells #[.int .i64 0, .int .i64 0, .bool false, .slice none 0 0, .slice none 0 0] 29) := ⟨_, rfl⟩
    rw [hs1, ← hW1] at hres0
    rw [← hW1]
    have hon : Only (fun i => i = g) w W1 := by rw [hW1]; exact ((Only.refl _ w).alloc _).alloc _
    have hbx : W1.heap[w.heap.size]? = some (.cells #[.int .i64 p.f0, .int .i64 p.f1, .bool p.f2, .slice A3 p.f3.length c3, .slice A4 p.f4.length c4] 25 (0, 0)) := by
      rw [hW1, Below.heap_alloc _ _ _ (by rw [hs1]; omega)]; exact hbx0
    have hrm : W1.heap[g]? = some (.cells #[.int .i64 r] 3 (0, 0)) := by
      rw [hW1, Below.heap_alloc _ _ _ (by rw [hs1]; omega), Below.heap_alloc _ _ _ hgw]; exact HG.out
    have hsz1 : W1.heap.size = w.heap.size + 2 := by rw [hW1]; simp
    clear hbx0 hs1
    have HON := Lib.hid hon
    have HBX := Lib.hid hbx
    have HRM := Lib.hid hrm
    have HRES := Lib.hid hres0
    have HSZ := Lib.hid hsz1
    have c0 : W1.cell? ⟨g, 0, none⟩ = some (.int .i64 r) := blk_cell hrm 0
    have f0 : W1.frozen? ⟨g, 0, none⟩ = false := blk_frozen hrm 0
    have b0 : W1.cell? ⟨w.heap.size, 0, none⟩ = some (.int .i64 p.f0) := blk_cell hbx 0
    have b1 : W1.cell? ⟨w.heap.size, 1, none⟩ = some (.int .i64 p.f1) := blk_cell hbx 1
    have b2 : W1.cell? ⟨w.heap.size, 2, none⟩ = some (.bool p.f2) := blk_cell hbx 2
    have b3 : W1.cell? ⟨w.heap.size, 3, none⟩ = some (.slice A3 p.f3.length c3) := blk_cell hbx 3
    have b4 : W1.cell? ⟨w.heap.size, 4, none⟩ = some (.slice A4 p.f4.length c4) := blk_cell hbx 4
    clear hW1 hon hbx hrm hres0 hsz1
    go_region
    obtain ⟨r', hr'⟩ : ∃ r', r' = r - (1 + (p.f3.length : Int)) := ⟨_, rfl⟩
    rw [← hr']
    obtain ⟨W2, hW2⟩ : ∃ W2, W2 = (W1.setCell ⟨g, 0, none⟩ (.int .i64 r')).drew := ⟨_, rfl⟩
    rw [← hW2]
    have hon : Only (fun i => i = g) w W2 := by rw [hW2]; exact (HON.out.setCell (a := ⟨g, 0, none⟩) (fun _ => rfl) _).drew
    have hrm : W2.heap[g]? = some (.cells #[.int .i64 r'] 3 (0, 0)) := by rw [hW2]; exact blk_set HRM.out 0 _
    have hbx : W2.heap[w.heap.size]? = some (.cells #[.int .i64 p.f0, .int .i64 p.f1, .bool p.f2, .slice A3 p.f3.length c3, .slice A4 p.f4.length c4] 25 (0, 0)) := by
      rw [hW2]; exact blk_far HBX.out (p := ⟨g, 0, none⟩) (by show w.heap.size ≠ g; omega) _
    have hres : W2.heap[w.heap.size + 1]? = some (.cells #[.int .i64 0, .int .i64 0, .bool false, .slice none 0 0, .slice none 0 0] 29 (0, 0)) := by
      rw [hW2]; exact blk_far HRES.out (p := ⟨g, 0, none⟩) (by show w.heap.size + 1 ≠ g; omega) _
    have hsz : W2.heap.size = w.heap.size + 2 := by rw [hW2]; show (W1.setCell _ _).heap.size = _; simp [HSZ.out]
    clear HON HBX HRM HRES HSZ c0 f0 b0 b1 b2 b3 b4 hW2
    have HON := Lib.hid hon
    have HBX := Lib.hid hbx
    have HRM := Lib.hid hrm
    have HRES := Lib.hid hres
    have HSZ := Lib.hid hsz
    have c0 : W2.cell? ⟨g, 0, none⟩ = some (.int .i64 r') := blk_cell hrm 0
    have b0 : W2.cell? ⟨w.heap.size, 0, none⟩ = some (.int .i64 p.f0) := blk_cell hbx 0
    have b1 : W2.cell? ⟨w.heap.size, 1, none⟩ = some (.int .i64 p.f1) := blk_cell hbx 1
    have b2 : W2.cell? ⟨w.heap.size, 2, none⟩ = some (.bool p.f2) := blk_cell hbx 2
    have b3 : W2.cell? ⟨w.heap.size, 3, none⟩ = some (.slice A3 p.f3.length c3) := blk_cell hbx 3
    have b4 : W2.cell? ⟨w.heap.size, 4, none⟩ = some (.slice A4 p.f4.length c4) := blk_cell hbx 4
    have k0 : W2.cell? ⟨w.heap.size + 1, 0, none⟩ = some (.int .i64 0) := blk_cell hres 0
    have k1 : W2.cell? ⟨w.heap.size + 1, 1, none⟩ = some (.int .i64 0) := blk_cell hres 1
    have k2 : W2.cell? ⟨w.heap.size + 1, 2, none⟩ = some (.bool false) := blk_cell hres 2
    have k3 : W2.cell? ⟨w.heap.size + 1, 3, none⟩ = some (.slice none 0 0) := blk_cell hres 3
    have k4 : W2.cell? ⟨w.heap.size + 1, 4, none⟩ = some (.slice none 0 0) := blk_cell hres 4
    have kf0 : W2.frozen? ⟨w.heap.size + 1, 0, none⟩ = false := blk_frozen hres 0
    have kf1 : W2.frozen? ⟨w.heap.size + 1, 1, none⟩ = false := blk_frozen hres 1
    have kf2 : W2.frozen? ⟨w.heap.size + 1, 2, none⟩ = false := blk_frozen hres 2
    have kf3 : W2.frozen? ⟨w.heap.size + 1, 3, none⟩ = false := blk_frozen hres 3
    have kf4 : W2.frozen? ⟨w.heap.size + 1, 4, none⟩ = false := blk_frozen hres 4
    have b4a : ∀ o, (W2.alloc o).cell? ⟨w.heap.size, 4, none⟩ = some (.slice A4 p.f4.length c4) := fun o => (World.cell?_of_block (a := ⟨w.heap.size, 4, none⟩) (Below.heap_alloc W2 o _ (by show w.heap.size < _; omega))).trans b4
    clear hon hbx hrm hres hsz
    have HR' := Lib.hid hr'
    have hlo : r' ≤ 1000000 := by omega
    clear hr'
    by_cases hneg : r' < 0
    · have hwi : fin = (bad, r') := by
        rw [hfin0]
        cases d with
        | zero => rw [wi, ← HR'.out]
        | succ d => rw [wi, ← HR'.out, if_pos hneg]
      clear hfin0 ih'
      subst hwi
      go_wp2
      obtain ⟨W3, hW3⟩ : ∃ W3, W3 = (((((W2.setCell ⟨w.heap.size + 1, 0, none⟩ (.int .i64 (-1))).setCell ⟨w.heap.size + 1, 1, none⟩ (.int .i64 0)).setCell ⟨w.heap.size + 1, 2, none⟩ (.bool false)).setCell ⟨w.heap.size + 1, 3, none⟩ (.slice none 0 0)).setCell ⟨w.heap.size + 1, 4, none⟩ (.slice none 0 0)) := ⟨_, rfl⟩
      rw [← hW3]
      obtain ⟨h5, hend⟩ := bad_end (w0 := w0) HON.out HRM.out HRES.out (by omega) (by omega) hW3
      try simp only [Exit.inBlock, Exit.then]
      exact bodyPost_ret (results_c rfl _ _ _ _ _ _ _ rfl h5 Tryd.underlying29 rfl size29) rfl hend
    · have hge : 0 ≤ r' := by omega
      rcases d with _ | d
      · have hwi : fin = (bad, r') := by rw [hfin0, wi, ← HR'.out]
        clear hfin0 ih'
        subst hwi
        go_wp2
        obtain ⟨W3, hW3⟩ : ∃ W3, W3 = (((((W2.setCell ⟨w.heap.size + 1, 0, none⟩ (.int .i64 (-1))).setCell ⟨w.heap.size + 1, 1, none⟩ (.int .i64 0)).setCell ⟨w.heap.size + 1, 2, none⟩ (.bool false)).setCell ⟨w.heap.size + 1, 3, none⟩ (.slice none 0 0)).setCell ⟨w.heap.size + 1, 4, none⟩ (.slice none 0 0)) := ⟨_, rfl⟩
        rw [← hW3]
        obtain ⟨h5, hend⟩ := bad_end (w0 := w0) HON.out HRM.out HRES.out (by omega) (by omega) hW3
        try simp only [Exit.inBlock, Exit.then]
        exact bodyPost_ret (results_c rfl _ _ _ _ _ _ _ rfl h5 Tryd.underlying29 rfl size29) rfl hend
      have ih := ih' d (by omega)
      clear ih'
      have hwi : fin = wiL d p p.f4 [] r' := by rw [hfin0, wi, ← HR'.out, if_neg hneg]
      clear hfin0
      have HWI := Lib.hid hwi
      clear hwi
      go_wp2
      obtain ⟨W3, hW3⟩ : ∃ W3, W3 = W2.alloc (.cells #[.int .i64 p.f0, .int .i64 p.f1, .bool p.f2, .slice A3 p.f3.length c3, .slice none 0 0] 29) := ⟨_, rfl⟩
      rw [← hW3, HSZ.out]
      have hI : Inv w0 w W3 g p A3 c3 r' (.slice none 0 0) [] := by
        rw [hW3]
        refine ⟨HON.out.alloc _, blk_alloc HRM.out _, blk_alloc HRES.out _, ?_, Kd.R_nil _ _ _ _ _⟩
        rw [← HSZ.out]
        exact blk_new _ _
      have HI := Lib.hid hI
      clear hI hW3 c0 b0 b1 b2 b3 b4 k0 k1 k2 k3 k4 kf0 kf1 kf2 kf3 kf4 b4a HON HBX HRM HRES HSZ
      go_loopw [40] (fun i wr => ∃ (k : Nat) (acc : List S29) (rr : Int) (v : Value), k ≤ p.f4.length ∧ i = .int .i64 k ∧ Hid (wiL d p (p.f4.drop k) acc rr = wiL d p p.f4 [] r') ∧ Hid ((acc.length : Int) + rr ≤ 1000000) ∧ Hid (Inv w0 w wr g p A3 c3 rr v acc)) (fun i _ => p.f4.length - (intOf i).toNat)
      case atStart => exact ⟨0, [], r', .slice none 0 0, Nat.zero_le _, rfl, Lib.hid rfl, Lib.hid (by simp; omega), HI⟩
      case round =>
        obtain ⟨k, acc, rr, v, hk, rfl, HW, HL, HV⟩ := hrel
        clear HI
        by_cases hlt : k < p.f4.length
        · have hBw : Below w0.heap.size w0 wr := HB.out.trans (HV.out.on.below HB.out.size (fun i hi => by have := HG0.out; omega))
          obtain ⟨ad, A3', c3', A4', c4', rfl, e0, e1, e2, e3, e4, m3, n3, m4, n4⟩ := at_T25 H4.out (k : Int) (by omega) (by omega)
          rw [Int.toNat_natCast] at e0 e1 e2 e3 e4
          obtain ⟨kid, hkid⟩ : ∃ kid, kid = rd_T25 p.f4 (k : Int) := ⟨_, rfl⟩
          rw [← hkid] at e0 e1 e2 e3 e4 m3 n3 m4 n4
          have HK := Lib.hid hkid
          clear hkid
          replace e0 := (hBw.cell (World.block_lt_of_cell? w0 _ e0)).trans e0
          replace e1 := (hBw.cell (World.block_lt_of_cell? w0 _ e1)).trans e1
          replace e2 := (hBw.cell (World.block_lt_of_cell? w0 _ e2)).trans e2
          replace e3 := (hBw.cell (World.block_lt_of_cell? w0 _ e3)).trans e3
          replace e4 := (hBw.cell (World.block_lt_of_cell? w0 _ e4)).trans e4
          have hg' := blk_lt HV.out.rm
          have r0 : ∀ o, (wr.alloc o).cell? ⟨g, 0, none⟩ = some (.int .i64 rr) := fun o => blk_cell (blk_alloc HV.out.rm o) 0
          by_cases hrr : rr < 0
          · have hdrop : p.f4.drop k = kid :: p.f4.drop (k + 1) := by
              rw [HK.out, rd_T25, Int.toNat_natCast, List.getD_eq_getElem?_getD, List.getElem?_eq_getElem hlt]
              exact List.drop_eq_getElem_cons hlt
            have hwi : fin = (bad, rr) := by rw [HWI.out, ← HW.out, hdrop, wiL, if_pos hrr]
            subst hwi
            have kz : ∀ o, (wr.alloc o).heap[w.heap.size + 1]? = some (.cells #[.int .i64 0, .int .i64 0, .bool false, .slice none 0 0, .slice none 0 0] 29 (0, 0)) := fun o => blk_alloc HV.out.res o
            have k0 : ∀ o, (wr.alloc o).cell? ⟨w.heap.size + 1, 0, none⟩ = some (.int .i64 0) := fun o => blk_cell (kz o) 0
            have k1 : ∀ o, (wr.alloc o).cell? ⟨w.heap.size + 1, 1, none⟩ = some (.int .i64 0) := fun o => blk_cell (kz o) 1
            have k2 : ∀ o, (wr.alloc o).cell? ⟨w.heap.size + 1, 2, none⟩ = some (.bool false) := fun o => blk_cell (kz o) 2
            have k3 : ∀ o, (wr.alloc o).cell? ⟨w.heap.size + 1, 3, none⟩ = some (.slice none 0 0) := fun o => blk_cell (kz o) 3
            have k4 : ∀ o, (wr.alloc o).cell? ⟨w.heap.size + 1, 4, none⟩ = some (.slice none 0 0) := fun o => blk_cell (kz o) 4
            have kf0 : ∀ o, (wr.alloc o).frozen? ⟨w.heap.size + 1, 0, none⟩ = false := fun o => blk_frozen (kz o) 0
            have kf1 : ∀ o, (wr.alloc o).frozen? ⟨w.heap.size + 1, 1, none⟩ = false := fun o => blk_frozen (kz o) 1
            have kf2 : ∀ o, (wr.alloc o).frozen? ⟨w.heap.size + 1, 2, none⟩ = false := fun o => blk_frozen (kz o) 2
            have kf3 : ∀ o, (wr.alloc o).frozen? ⟨w.heap.size + 1, 3, none⟩ = false := fun o => blk_frozen (kz o) 3
            have kf4 : ∀ o, (wr.alloc o).frozen? ⟨w.heap.size + 1, 4, none⟩ = false := fun o => blk_frozen (kz o) 4
            have KZ := Lib.hid kz
            clear kz
            go_wp2
            obtain ⟨h5, hend⟩ := bad_end (w0 := w0) (HV.out.on.alloc _) (blk_alloc HV.out.rm _) (KZ.out _) (by omega) (by omega) rfl
            try simp only [Exit.inBlock, Exit.then]
            exact bodyPost_ret (results_c rfl _ _ _ _ _ _ _ rfl h5 Tryd.underlying29 rfl size29) rfl hend
          · have hrr' : 0 ≤ rr := by omega
            go_wp2_with fail
            obtain ⟨W5, hW5⟩ : ∃ W5, W5 = wr.alloc (.cells #[.int .i64 kid.f0, .int .i64 kid.f1, .bool kid.f2, .slice A3' kid.f3.length c3', .slice A4' kid.f4.length c4'] 25) := ⟨_, rfl⟩
            rw [← hW5]
            have hb5 : Below wr.heap.size wr W5 := by rw [hW5]; exact below_alloc (Below.refl _ _) _
            have hk5 : W5.heap[wr.heap.size]? = some (.cells #[.int .i64 kid.f0, .int .i64 kid.f1, .bool kid.f2, .slice A3' kid.f3.length c3', .slice A4' kid.f4.length c4'] 25 (0, 0)) := by rw [hW5]; exact blk_new _ _
            have HC : Hid (∀ dv : Int, dv = (d : Int) → Calls Tryd.prog 16 #[.agg #[.int .i64 kid.f0, .int .i64 kid.f1, .bool kid.f2, .slice A3' kid.f3.length c3', .slice A4' kid.f4.length c4'], .int .i64 dv, .pointer (some ⟨g, 0, none⟩)] W5.drew (Read w0 W5.drew g (wi d kid rr).1 (wi d kid rr).2)) := Lib.hid (fun dv hdv => by
              rw [hdv]
              exact ih (by omega) kid A3' c3' A4' c4' rr g W5.drew n3 m3 n4 m4 (by
                have := List.all_eq_true.1 ((lensL_all _).symm.trans HLN.out) kid (by
                  rw [HK.out, rd_T25, Int.toNat_natCast, List.getD_eq_getElem?_getD, List.getElem?_eq_getElem hlt]
                  exact List.getElem_mem hlt)
                exact this) hrr' (by have := HL.out; omega) (blk_below (w1 := W5) HV.out.rm hb5) HG0.out (hBw.trans (Below.drew (hb5.mono hBw.size))))
            have hwd : IntKind.i64.wrap (d : Int) = (d : Int) := by rw [IntKind.wrap_i64]; omega
            have HI2 := Lib.hid (HV.out.step (W' := W5.drew) (below_drew hb5))
            have s0 : W5.cell? ⟨w.heap.size + 2, 4, none⟩ = some v := blk_cell HI2.out.out 4
            have s1 : W5.cell? ⟨wr.heap.size, 0, none⟩ = some (.int .i64 kid.f0) := blk_cell hk5 0
            have s2 : W5.cell? ⟨wr.heap.size, 1, none⟩ = some (.int .i64 kid.f1) := blk_cell hk5 1
            have s3 : W5.cell? ⟨wr.heap.size, 2, none⟩ = some (.bool kid.f2) := blk_cell hk5 2
            have s4 : W5.cell? ⟨wr.heap.size, 3, none⟩ = some (.slice A3' kid.f3.length c3') := blk_cell hk5 3
            have s5 : W5.cell? ⟨wr.heap.size, 4, none⟩ = some (.slice A4' kid.f4.length c4') := blk_cell hk5 4
            have HB5 := Lib.hid hb5
            have HK5 := Lib.hid hk5
            clear e0 e1 e2 e3 e4 m3 n3 m4 n4 r0 hW5 hb5 hk5
            go_region_law (first
              | ((refine Kd.R_append_step (km w0) (w0 := W4) (W := W4) w.heap.size (by rfl) (.tmp 50) (.tmp 56) 27 29 (.agg #[.int .i64 0, .int .i64 0, .bool false, .slice none 0 0, .slice none 0 0]) 72 (by rfl) Tryd.underlying27 info29 rfl (show 0 < 5 by decide) (by decide) v acc (wi d kid rr).1 _ (fun k => k ≠ w.heap.size + 1 ∧ k ≠ w.heap.size + 2) _ (by rfl) (by rfl) HM4.out (HI2.out.okp hgw) HI4.out.fresh HI4.out.row (Below.refl _ _) HI4.out.on.size (by have := HL.out; omega) ?_
                  intro v1 w1 hR1 hb1 hg1 hat1
                  have hne := HI4.out.ne
                  have hnb : some wr.heap.size ≠ v.ownBlock := fun e => by
                    have := own_lt HV.out.row.2.choose_spec.1 _ e.symm
                    omega
                  have x0 : w1.cell? ⟨w.heap.size + 2, 4, none⟩ = some v := blk_cell (blk_grown HI4.out.out hg1 hne) 4
                  have xf : w1.frozen? ⟨w.heap.size + 2, 4, none⟩ = false := blk_frozen (blk_grown HI4.out.out hg1 hne) 4
                  have x1 : w1.cell? ⟨wr.heap.size, 0, none⟩ = some (.int .i64 kid.f0) := blk_cell (blk_grown HK4.out hg1 hnb) 0
                  have x2 : w1.cell? ⟨wr.heap.size, 1, none⟩ = some (.int .i64 kid.f1) := blk_cell (blk_grown HK4.out hg1 hnb) 1
                  have x3 : w1.cell? ⟨wr.heap.size, 2, none⟩ = some (.bool kid.f2) := blk_cell (blk_grown HK4.out hg1 hnb) 2
                  have x4 : w1.cell? ⟨wr.heap.size, 3, none⟩ = some (.slice A3' kid.f3.length c3') := blk_cell (blk_grown HK4.out hg1 hnb) 3
                  have x5 : w1.cell? ⟨wr.heap.size, 4, none⟩ = some (.slice A4' kid.f4.length c4') := blk_cell (blk_grown HK4.out hg1 hnb) 4
                  have hnn : wr.heap.size ≠ w.heap.size + 2 := by have := blk_lt HV.out.out; omega
                  have y1 : ∀ u, (w1.setCell ⟨w.heap.size + 2, 4, none⟩ u).cell? ⟨wr.heap.size, 0, none⟩ = some (.int .i64 kid.f0) := fun u => blk_cell (blk_far (blk_grown HK4.out hg1 hnb) (p := ⟨w.heap.size + 2, 4, none⟩) hnn u) 0
                  have y2 : ∀ u, (w1.setCell ⟨w.heap.size + 2, 4, none⟩ u).cell? ⟨wr.heap.size, 1, none⟩ = some (.int .i64 kid.f1) := fun u => blk_cell (blk_far (blk_grown HK4.out hg1 hnb) (p := ⟨w.heap.size + 2, 4, none⟩) hnn u) 1
                  have y3 : ∀ u, (w1.setCell ⟨w.heap.size + 2, 4, none⟩ u).cell? ⟨wr.heap.size, 2, none⟩ = some (.bool kid.f2) := fun u => blk_cell (blk_far (blk_grown HK4.out hg1 hnb) (p := ⟨w.heap.size + 2, 4, none⟩) hnn u) 2
                  have y4 : ∀ u, (w1.setCell ⟨w.heap.size + 2, 4, none⟩ u).cell? ⟨wr.heap.size, 3, none⟩ = some (.slice A3' kid.f3.length c3') := fun u => blk_cell (blk_far (blk_grown HK4.out hg1 hnb) (p := ⟨w.heap.size + 2, 4, none⟩) hnn u) 3
                  have y5 : ∀ u, (w1.setCell ⟨w.heap.size + 2, 4, none⟩ u).cell? ⟨wr.heap.size, 4, none⟩ = some (.slice A4' kid.f4.length c4') := fun u => blk_cell (blk_far (blk_grown HK4.out hg1 hnb) (p := ⟨w.heap.size + 2, 4, none⟩) hnn u) 4
                  obtain ⟨Aq, cq, hvq, _, _⟩ := Kd.R_reads hR1
                  subst hvq
                  have h6 := HI4.out.app hgw hg1 hat1 hR1
                  simp only [List.length_append, List.length_singleton] at h6
                  have HI6 := Lib.hid h6
                  clear h6 hR1 hb1 hg1 hat1 hne hnb hnn))
              | (go_wp2_with (go_at_call 16
                              with_reducible refine (HC.out _ rfl).mono ?_
                              rintro e W4 hR4
                              obtain ⟨c4, rfl, hI4, hM4⟩ := HI2.out.read hgw hR4
                              have hk4 : W4.heap[wr.heap.size]? = some (.cells #[.int .i64 kid.f0, .int .i64 kid.f1, .bool kid.f2, .slice A3' kid.f3.length c3', .slice A4' kid.f4.length c4'] 25 (0, 0)) := by
                                obtain ⟨_, _, _, _, hon4⟩ := hR4
                                exact (hon4.block _ (blk_lt HK5.out) (by show ¬ _ = g; omega)).trans HK5.out
                              obtain ⟨A5, c5, v5, rfl, l5, g5, r5⟩ := km_openM hM4
                              have t0 : W4.cell? ⟨w.heap.size + 2, 4, none⟩ = some v := blk_cell hI4.out 4
                              have t1 : W4.cell? ⟨wr.heap.size, 0, none⟩ = some (.int .i64 kid.f0) := blk_cell hk4 0
                              have t2 : W4.cell? ⟨wr.heap.size, 1, none⟩ = some (.int .i64 kid.f1) := blk_cell hk4 1
                              have t3 : W4.cell? ⟨wr.heap.size, 2, none⟩ = some (.bool kid.f2) := blk_cell hk4 2
                              have t4 : W4.cell? ⟨wr.heap.size, 3, none⟩ = some (.slice A3' kid.f3.length c3') := blk_cell hk4 3
                              have t5 : W4.cell? ⟨wr.heap.size, 4, none⟩ = some (.slice A4' kid.f4.length c4') := blk_cell hk4 4
                              have u0 : ∀ o, (W4.alloc o).cell? ⟨w.heap.size + 2, 4, none⟩ = some v := fun o => blk_cell (blk_alloc hI4.out o) 4
                              have u1 : ∀ o, (W4.alloc o).cell? ⟨wr.heap.size, 0, none⟩ = some (.int .i64 kid.f0) := fun o => blk_cell (blk_alloc hk4 o) 0
                              have u2 : ∀ o, (W4.alloc o).cell? ⟨wr.heap.size, 1, none⟩ = some (.int .i64 kid.f1) := fun o => blk_cell (blk_alloc hk4 o) 1
                              have u3 : ∀ o, (W4.alloc o).cell? ⟨wr.heap.size, 2, none⟩ = some (.bool kid.f2) := fun o => blk_cell (blk_alloc hk4 o) 2
                              have u4 : ∀ o, (W4.alloc o).cell? ⟨wr.heap.size, 3, none⟩ = some (.slice A3' kid.f3.length c3') := fun o => blk_cell (blk_alloc hk4 o) 3
                              have u5 : ∀ o, (W4.alloc o).cell? ⟨wr.heap.size, 4, none⟩ = some (.slice A4' kid.f4.length c4') := fun o => blk_cell (blk_alloc hk4 o) 4
                              have HI4 := Lib.hid hI4
                              have HM4 := Lib.hid hM4
                              have HK4 := Lib.hid hk4
                              clear hI4 hM4 hk4 hR4)))
            all_goals (
              go_wp2
              go_roundw
              case rel =>
                refine ⟨k + 1, acc ++ [(wi d kid rr).1], (wi d kid rr).2, _, by omega, by go_num, Lib.hid ?_, Lib.hid ?_, HI6⟩
                · have hdrop : p.f4.drop k = kid :: p.f4.drop (k + 1) := by
                    rw [HK.out, rd_T25, Int.toNat_natCast, List.getD_eq_getElem?_getD, List.getElem?_eq_getElem hlt]
                    exact List.drop_eq_getElem_cons hlt
                  rw [← HW.out, hdrop, wiL, if_neg (show ¬ rr < 0 by omega)]
                · have h1 := wi_le d kid rr
                  have h2 := HL.out
                  rw [List.length_append, List.length_singleton]
                  push_cast
                  omega
              case measure => simp [intOf]; omega)
        · obtain rfl : k = p.f4.length := by omega
          have hfin : fin = (⟨p.f0, p.f1, p.f2, p.f3, acc⟩, rr) := by rw [HWI.out, ← HW.out, List.drop_length, wiL]
          subst hfin
          obtain ⟨Av, cv, rfl, hav, hcv⟩ := Kd.R_reads HV.out.row
          have o0 : wr.cell? ⟨w.heap.size + 2, 0, none⟩ = some (.int .i64 p.f0) := blk_cell HV.out.out 0
          have o1 : wr.cell? ⟨w.heap.size + 2, 1, none⟩ = some (.int .i64 p.f1) := blk_cell HV.out.out 1
          have o2 : wr.cell? ⟨w.heap.size + 2, 2, none⟩ = some (.bool p.f2) := blk_cell HV.out.out 2
          have o3 : wr.cell? ⟨w.heap.size + 2, 3, none⟩ = some (.slice A3 p.f3.length c3) := blk_cell HV.out.out 3
          have o4 : wr.cell? ⟨w.heap.size + 2, 4, none⟩ = some (.slice Av acc.length cv) := blk_cell HV.out.out 4
          clear hav hcv
          have kf0 : wr.frozen? ⟨w.heap.size + 1, 0, none⟩ = false := blk_frozen HV.out.res 0
          have kf1 : wr.frozen? ⟨w.heap.size + 1, 1, none⟩ = false := blk_frozen HV.out.res 1
          have kf2 : wr.frozen? ⟨w.heap.size + 1, 2, none⟩ = false := blk_frozen HV.out.res 2
          have kf3 : wr.frozen? ⟨w.heap.size + 1, 3, none⟩ = false := blk_frozen HV.out.res 3
          have kf4 : wr.frozen? ⟨w.heap.size + 1, 4, none⟩ = false := blk_frozen HV.out.res 4
          have k0 : wr.cell? ⟨w.heap.size + 1, 0, none⟩ = some (.int .i64 0) := blk_cell HV.out.res 0
          have k1 : wr.cell? ⟨w.heap.size + 1, 1, none⟩ = some (.int .i64 0) := blk_cell HV.out.res 1
          have k2 : wr.cell? ⟨w.heap.size + 1, 2, none⟩ = some (.bool false) := blk_cell HV.out.res 2
          have k3 : wr.cell? ⟨w.heap.size + 1, 3, none⟩ = some (.slice none 0 0) := blk_cell HV.out.res 3
          have k4 : wr.cell? ⟨w.heap.size + 1, 4, none⟩ = some (.slice none 0 0) := blk_cell HV.out.res 4
          go_wp2
          try simp only [Exit.inBlock, Exit.then]
          obtain ⟨h5, hend⟩ := out_end HV.out hgw l3 H3.out rfl
          exact bodyPost_ret (results_c rfl _ _ _ _ _ _ _ rfl h5 Tryd.underlying29 rfl size29) rfl hend
end Go.Proofs.YtejbpbdlolehnaaDoor.Within

namespace Go.Proofs.YtejbpbdlolehnaaDoor.Within
open Go.RowKit Go.Proofs.YtejbpbdlolehnaaDoorW.PrintWords Go.Proofs.YtejbpbdlolehnaaDoor.PFnEncode Go.Proofs.YtejbpbdlolehnaaDoor.Tree Go.Proofs.YtejbpbdlolehnaaDoor.Buf
set_option linter.unusedVariables false
set_option linter.unusedSimpArgs false

/-- What reading a packet leaves: the reference's packet x, read now. -/
def Got (w : World) (x : S29) (e : Ending) (w' : World) : Prop :=
  ∃ A3 c3 A4 c4, e = .returned (.agg #[.int .i64 x.f0, .int .i64 x.f1, .bool x.f2, .slice A3 x.f3.length c3, .slice A4 x.f4.length c4]) ∧ x.f3.length ≤ c3 ∧ (Kd.int .u8).C w' A3 x.f3.length x.f3 ∧ x.f4.length ≤ c4 ∧ k29.C w' A4 x.f4.length x.f4 ∧ Below w.heap.size w w'

/-- the end of both -/
theorem pk_end {w W W3 : World} {B : Nat} {x : S29} {A5 A6 : Option Addr} {c5 c6 : Nat} {z0 z1 z2 z3 z4 : Value} (hb : Below w.heap.size w W) (hres : W.heap[w.heap.size + 1]? = some (.cells #[z0, z1, z2, z3, z4] 29 (0, 0))) (hB : w.heap.size + 1 < B) (l5 : x.f3.length ≤ c5) (g5 : (Kd.int .u8).C w A5 x.f3.length x.f3) (r5 : (km w).R 29 W B (fun _ => True) (.slice A6 x.f4.length c6) x.f4)
    (hW3 : W3 = (((((W.setCell ⟨w.heap.size + 1, 0, none⟩ (.int .i64 x.f0)).setCell ⟨w.heap.size + 1, 1, none⟩ (.int .i64 x.f1)).setCell ⟨w.heap.size + 1, 2, none⟩ (.bool x.f2)).setCell ⟨w.heap.size + 1, 3, none⟩ (.slice A5 x.f3.length c5)).setCell ⟨w.heap.size + 1, 4, none⟩ (.slice A6 x.f4.length c6))) :
    W3.heap[w.heap.size + 1]? = some (.cells #[.int .i64 x.f0, .int .i64 x.f1, .bool x.f2, .slice A5 x.f3.length c5, .slice A6 x.f4.length c6] 29 (0, 0)) ∧ Got w x (.returned (.agg #[.int .i64 x.f0, .int .i64 x.f1, .bool x.f2, .slice A5 x.f3.length c5, .slice A6 x.f4.length c6])) W3 := by
  have h5 := blk_set (blk_set (blk_set (blk_set (blk_set hres 0 (.int .i64 x.f0)) 1 (.int .i64 x.f1)) 2 (.bool x.f2)) 3 (.slice A5 x.f3.length c5)) 4 (.slice A6 x.f4.length c6)
  rw [← hW3] at h5
  have hb3 : Below w.heap.size w W3 := by
    rw [hW3]
    exact ((((hb.setCell (p := ⟨w.heap.size + 1, 0, none⟩) (by show w.heap.size ≤ w.heap.size + 1; omega) _).setCell (p := ⟨w.heap.size + 1, 1, none⟩) (by show w.heap.size ≤ w.heap.size + 1; omega) _).setCell (p := ⟨w.heap.size + 1, 2, none⟩) (by show w.heap.size ≤ w.heap.size + 1; omega) _).setCell (p := ⟨w.heap.size + 1, 3, none⟩) (by show w.heap.size ≤ w.heap.size + 1; omega) _).setCell (p := ⟨w.heap.size + 1, 4, none⟩) (by show w.heap.size ≤ w.heap.size + 1; omega) _
  have hr : (km w).R 29 W3 B (fun k => k ≠ w.heap.size + 1) (.slice A6 x.f4.length c6) x.f4 := by
    have h0 : (km w).R 29 W B (fun k => k ≠ w.heap.size + 1) (.slice A6 x.f4.length c6) x.f4 := Kd.R_mono (Kd.R_bound r5) (fun k hk => by have := hk.2.1; omega)
    rw [hW3]
    exact Kd.R_far (Kd.R_far (Kd.R_far (Kd.R_far (Kd.R_far h0 (p := ⟨w.heap.size + 1, 0, none⟩) (fun k hk => hk) _) (p := ⟨w.heap.size + 1, 1, none⟩) (fun k hk => hk) _) (p := ⟨w.heap.size + 1, 2, none⟩) (fun k hk => hk) _) (p := ⟨w.heap.size + 1, 3, none⟩) (fun k hk => hk) _) (p := ⟨w.heap.size + 1, 4, none⟩) (fun k hk => hk) _
  obtain ⟨_, l6, r6⟩ := Kd.R_reads' hr
  exact ⟨h5, A5, c5, A6, c6, rfl, l5, Kd.C_below g5 hb3, l6, Kd.C_read (dm := km w) (d := k29) rfl (fun x cs hp => km_read hb3 hp) r6, hb3⟩

set_option maxHeartbeats 6400000 in
set_option maxRecDepth 100000 in
theorem packet_any (p : S25) (A3 : Option Addr) (c3 : Nat) (A4 : Option Addr) (c4 : Nat) (w : World) (h3 : (Kd.int .u8).C w A3 p.f3.length p.f3) (l3 : p.f3.length ≤ c3) (h4 : k25.C w A4 p.f4.length p.f4) (l4 : p.f4.length ≤ c4) (hln : lens p = true) :
    Calls Tryd.prog 7 #[.agg #[.int .i64 p.f0, .int .i64 p.f1, .bool p.f2, .slice A3 p.f3.length c3, .slice A4 p.f4.length c4]] w (Got w (wi 20 p 5000).1) := by
  obtain ⟨W1, hW1⟩ : ∃ W1, W1 = ((w.alloc (.cells #[.int .i64 p.f0, .int .i64 p.f1, .bool p.f2, .slice A3 p.f3.length c3, .slice A4 p.f4.length c4] 25)).alloc (.cells #[.int .i64 0, .int .i64 0, .bool false, .slice none 0 0, .slice none 0 0] 29)).alloc (.cells #[.int .i64 5000] 3) := ⟨_, rfl⟩
  have hb : Below w.heap.size w W1 := by rw [hW1]; exact below_alloc (below_alloc (below_alloc (Below.refl _ _) _) _) _
  have hrm : W1.heap[w.heap.size + 1 + 1]? = some (.cells #[.int .i64 5000] 3 (0, 0)) := by
    have := blk_new ((w.alloc (.cells #[.int .i64 p.f0, .int .i64 p.f1, .bool p.f2, .slice A3 p.f3.length c3, .slice A4 p.f4.length c4] 25)).alloc (.cells #[.int .i64 0, .int .i64 0, .bool false, .slice none 0 0, .slice none 0 0] 29)) (.cells #[.int .i64 5000] 3)
    rw [hW1]
    simpa using this
  have hres : W1.heap[w.heap.size + 1]? = some (.cells #[.int .i64 0, .int .i64 0, .bool false, .slice none 0 0, .slice none 0 0] 29 (0, 0)) := by
    have := blk_alloc (blk_new (w.alloc (.cells #[.int .i64 p.f0, .int .i64 p.f1, .bool p.f2, .slice A3 p.f3.length c3, .slice A4 p.f4.length c4] 25)) (.cells #[.int .i64 0, .int .i64 0, .bool false, .slice none 0 0, .slice none 0 0] 29)) (.cells #[.int .i64 5000] 3)
    rw [hW1]
    simpa using this
  have HC : Hid (Calls Tryd.prog 16 #[.agg #[.int .i64 p.f0, .int .i64 p.f1, .bool p.f2, .slice A3 p.f3.length c3, .slice A4 p.f4.length c4], .int .i64 20, .pointer (some ⟨w.heap.size + 1 + 1, 0, none⟩)] W1 (Read w W1 (w.heap.size + 1 + 1) (wi 20 p 5000).1 (wi 20 p 5000).2)) :=
    Lib.hid (within_any w 20 (by omega) p A3 c3 A4 c4 5000 (w.heap.size + 1 + 1) W1 h3 l3 h4 l4 hln (by omega) (by omega) hrm (by omega) hb)
  obtain ⟨x, hx⟩ : ∃ x, x = (wi 20 p 5000).1 := ⟨_, rfl⟩
  rw [← hx] at HC ⊢
  have HX := Lib.hid hx
  have HB := Lib.hid hb
  have HRES := Lib.hid hres
  have HW1 := Lib.hid hW1
  clear hx hb hres hrm hW1 h3 h4 hln
  go_enter Tryd.func7, Tryd.ntmps7
  go_wp2_with fail
  rw [← HW1.out]
  refine HC.out.mono ?_
  rintro e W4 ⟨c, rfl, hM, hrm4, hon4⟩
  obtain ⟨A5, c5, v5, rfl, l5, g5, r5⟩ := km_openM hM
  obtain ⟨A6, c6, rfl, l6, r6⟩ := Kd.R_reads r5
  have hB4 : Below w.heap.size w W4 := HB.out.trans (hon4.below HB.out.size (fun i hi => by omega))
  have hres4 : W4.heap[w.heap.size + 1]? = some (.cells #[.int .i64 0, .int .i64 0, .bool false, .slice none 0 0, .slice none 0 0] 29 (0, 0)) := (hon4.block _ (blk_lt HRES.out) (by show ¬ _ = w.heap.size + 1 + 1; omega)).trans HRES.out
  clear l6 r6
  have kf0 : W4.frozen? ⟨w.heap.size + 1, 0, none⟩ = false := blk_frozen hres4 0
  have kf1 : W4.frozen? ⟨w.heap.size + 1, 1, none⟩ = false := blk_frozen hres4 1
  have kf2 : W4.frozen? ⟨w.heap.size + 1, 2, none⟩ = false := blk_frozen hres4 2
  have kf3 : W4.frozen? ⟨w.heap.size + 1, 3, none⟩ = false := blk_frozen hres4 3
  have kf4 : W4.frozen? ⟨w.heap.size + 1, 4, none⟩ = false := blk_frozen hres4 4
  have k0 : W4.cell? ⟨w.heap.size + 1, 0, none⟩ = some (.int .i64 0) := blk_cell hres4 0
  have k1 : W4.cell? ⟨w.heap.size + 1, 1, none⟩ = some (.int .i64 0) := blk_cell hres4 1
  have k2 : W4.cell? ⟨w.heap.size + 1, 2, none⟩ = some (.bool false) := blk_cell hres4 2
  have k3 : W4.cell? ⟨w.heap.size + 1, 3, none⟩ = some (.slice none 0 0) := blk_cell hres4 3
  have k4 : W4.cell? ⟨w.heap.size + 1, 4, none⟩ = some (.slice none 0 0) := blk_cell hres4 4
  have R5 := Lib.hid r5
  have G5 := Lib.hid g5
  have HR4 := Lib.hid hres4
  have HB4 := Lib.hid hB4
  have HRM4 := Lib.hid (blk_lt HRES.out)
  clear r5 g5 hres4 hB4 hM hrm4 hon4
  go_wp2
  obtain ⟨h5, hend⟩ := pk_end (x := x) HB4.out HR4.out (by have := HRM4.out; omega) l5 G5.out R5.out rfl
  try simp only [Exit.inBlock, Exit.then]
  exact bodyPost_ret (results_c rfl _ _ _ _ _ _ _ rfl h5 Tryd.underlying29 rfl size29) rfl hend

end Go.Proofs.YtejbpbdlolehnaaDoor.Within

namespace Go.Proofs.YtejbpbdlolehnaaDoor.Within
open Go.RowKit Go.Proofs.YtejbpbdlolehnaaDoorW.PrintWords Go.Proofs.YtejbpbdlolehnaaDoor.PFnEncode Go.Proofs.YtejbpbdlolehnaaDoor.Tree Go.Proofs.YtejbpbdlolehnaaDoor.Buf
set_option linter.unusedVariables false
set_option linter.unusedSimpArgs false

set_option maxHeartbeats 6400000 in
set_option maxRecDepth 100000 in
theorem answer_any (p : S25) (A3 : Option Addr) (c3 : Nat) (A4 : Option Addr) (c4 : Nat) (w : World) (h3 : (Kd.int .u8).C w A3 p.f3.length p.f3) (l3 : p.f3.length ≤ c3) (h4 : k25.C w A4 p.f4.length p.f4) (l4 : p.f4.length ≤ c4) (hln : lens p = true) :
    Calls Tryd.prog 14 #[.agg #[.int .i64 p.f0, .int .i64 p.f1, .bool p.f2, .slice A3 p.f3.length c3, .slice A4 p.f4.length c4]] w (Got w (wi 60 p 200000).1) := by
  obtain ⟨W1, hW1⟩ : ∃ W1, W1 = ((w.alloc (.cells #[.int .i64 p.f0, .int .i64 p.f1, .bool p.f2, .slice A3 p.f3.length c3, .slice A4 p.f4.length c4] 25)).alloc (.cells #[.int .i64 0, .int .i64 0, .bool false, .slice none 0 0, .slice none 0 0] 29)).alloc (.cells #[.int .i64 200000] 3) := ⟨_, rfl⟩
  have hb : Below w.heap.size w W1 := by rw [hW1]; exact below_alloc (below_alloc (below_alloc (Below.refl _ _) _) _) _
  have hrm : W1.heap[w.heap.size + 1 + 1]? = some (.cells #[.int .i64 200000] 3 (0, 0)) := by
    have := blk_new ((w.alloc (.cells #[.int .i64 p.f0, .int .i64 p.f1, .bool p.f2, .slice A3 p.f3.length c3, .slice A4 p.f4.length c4] 25)).alloc (.cells #[.int .i64 0, .int .i64 0, .bool false, .slice none 0 0, .slice none 0 0] 29)) (.cells #[.int .i64 200000] 3)
    rw [hW1]
    simpa using this
  have hres : W1.heap[w.heap.size + 1]? = some (.cells #[.int .i64 0, .int .i64 0, .bool false, .slice none 0 0, .slice none 0 0] 29 (0, 0)) := by
    have := blk_alloc (blk_new (w.alloc (.cells #[.int .i64 p.f0, .int .i64 p.f1, .bool p.f2, .slice A3 p.f3.length c3, .slice A4 p.f4.length c4] 25)) (.cells #[.int .i64 0, .int .i64 0, .bool false, .slice none 0 0, .slice none 0 0] 29)) (.cells #[.int .i64 200000] 3)
    rw [hW1]
    simpa using this
  have HC : Hid (Calls Tryd.prog 16 #[.agg #[.int .i64 p.f0, .int .i64 p.f1, .bool p.f2, .slice A3 p.f3.length c3, .slice A4 p.f4.length c4], .int .i64 60, .pointer (some ⟨w.heap.size + 1 + 1, 0, none⟩)] W1 (Read w W1 (w.heap.size + 1 + 1) (wi 60 p 200000).1 (wi 60 p 200000).2)) :=
    Lib.hid (within_any w 60 (by omega) p A3 c3 A4 c4 200000 (w.heap.size + 1 + 1) W1 h3 l3 h4 l4 hln (by omega) (by omega) hrm (by omega) hb)
  obtain ⟨x, hx⟩ : ∃ x, x = (wi 60 p 200000).1 := ⟨_, rfl⟩
  rw [← hx] at HC ⊢
  have HX := Lib.hid hx
  have HB := Lib.hid hb
  have HRES := Lib.hid hres
  have HW1 := Lib.hid hW1
  clear hx hb hres hrm hW1 h3 h4 hln
  go_enter Tryd.func14, Tryd.ntmps14
  go_wp2_with fail
  rw [← HW1.out]
  refine HC.out.mono ?_
  rintro e W4 ⟨c, rfl, hM, hrm4, hon4⟩
  obtain ⟨A5, c5, v5, rfl, l5, g5, r5⟩ := km_openM hM
  obtain ⟨A6, c6, rfl, l6, r6⟩ := Kd.R_reads r5
  have hB4 : Below w.heap.size w W4 := HB.out.trans (hon4.below HB.out.size (fun i hi => by omega))
  have hres4 : W4.heap[w.heap.size + 1]? = some (.cells #[.int .i64 0, .int .i64 0, .bool false, .slice none 0 0, .slice none 0 0] 29 (0, 0)) := (hon4.block _ (blk_lt HRES.out) (by show ¬ _ = w.heap.size + 1 + 1; omega)).trans HRES.out
  clear l6 r6
  have kf0 : W4.frozen? ⟨w.heap.size + 1, 0, none⟩ = false := blk_frozen hres4 0
  have kf1 : W4.frozen? ⟨w.heap.size + 1, 1, none⟩ = false := blk_frozen hres4 1
  have kf2 : W4.frozen? ⟨w.heap.size + 1, 2, none⟩ = false := blk_frozen hres4 2
  have kf3 : W4.frozen? ⟨w.heap.size + 1, 3, none⟩ = false := blk_frozen hres4 3
  have kf4 : W4.frozen? ⟨w.heap.size + 1, 4, none⟩ = false := blk_frozen hres4 4
  have k0 : W4.cell? ⟨w.heap.size + 1, 0, none⟩ = some (.int .i64 0) := blk_cell hres4 0
  have k1 : W4.cell? ⟨w.heap.size + 1, 1, none⟩ = some (.int .i64 0) := blk_cell hres4 1
  have k2 : W4.cell? ⟨w.heap.size + 1, 2, none⟩ = some (.bool false) := blk_cell hres4 2
  have k3 : W4.cell? ⟨w.heap.size + 1, 3, none⟩ = some (.slice none 0 0) := blk_cell hres4 3
  have k4 : W4.cell? ⟨w.heap.size + 1, 4, none⟩ = some (.slice none 0 0) := blk_cell hres4 4
  have R5 := Lib.hid r5
  have G5 := Lib.hid g5
  have HR4 := Lib.hid hres4
  have HB4 := Lib.hid hB4
  have HRM4 := Lib.hid (blk_lt HRES.out)
  clear r5 g5 hres4 hB4 hM hrm4 hon4
  go_wp2
  obtain ⟨h5, hend⟩ := pk_end (x := x) HB4.out HR4.out (by have := HRM4.out; omega) l5 G5.out R5.out rfl
  try simp only [Exit.inBlock, Exit.then]
  exact bodyPost_ret (results_c rfl _ _ _ _ _ _ _ rfl h5 Tryd.underlying29 rfl size29) rfl hend

end Go.Proofs.YtejbpbdlolehnaaDoor.Within
namespace Go.Proofs.YtejbpbdlolehnaaDoor.Tree
open Go.RowKit Go.Proofs.YtejbpbdlolehnaaDoorW.PrintWords Go.Proofs.YtejbpbdlolehnaaDoor.PFnEncode Go.Proofs.YtejbpbdlolehnaaDoor.Within Go.Proofs.YtejbpbdlolehnaaDoor.Num Go.Proofs.YtejbpbdlolehnaaDoor.Ident
set_option linter.unusedVariables false
set_option linter.unusedSimpArgs false

mutual
/-- the bytes of a packet -/
def bytesT : S29 → List Int
  | ⟨a, b, c, d, l⟩ => identT a b c ++ lenBytes (d ++ bytesL l).length ++ (d ++ bytesL l)
def bytesL : List S29 → List Int
  | [] => []
  | x :: xs => bytesT x ++ bytesL xs
end

theorem len_le_tsB : ∀ l : List S29, l.length ≤ tsizeL l
  | [] => Nat.le_refl _
  | x :: xs => by
    have := len_le_tsB xs
    rw [tsizeL, List.length_cons]
    have h : 1 ≤ tsize x := by obtain ⟨a, b, c, d, l⟩ := x; rw [tsize]; omega
    omega

theorem rd_midB (pre : List S29) (x : S29) (xs : List S29) : rd_T29 (pre ++ x :: xs) (pre.length : Int) = x := by
  rw [rd_T29, Int.toNat_natCast, List.getD_eq_getElem?_getD, List.getElem?_append_right (Nat.le_refl _), Nat.sub_self]
  rfl

theorem bytesL_append (l m : List S29) : bytesL (l ++ m) = bytesL l ++ bytesL m := by
  induction l with
  | nil => simp [bytesL]
  | cons x xs ih => rw [List.cons_append, bytesL, bytesL, ih, List.append_assoc]

theorem identT_le (a b : Int) (c : Bool) (h0 : 0 ≤ b) (h : b < 268435456) : (identT a b c).length ≤ 5 := by
  unfold identT
  split
  · simp
  · have := ng_le 4 b.toNat (by omega)
    simp [low_length]
    exact this

mutual
theorem bytesT_le : ∀ x : S29, good x = true → tsize x < 72057594037927936 → (bytesT x).length ≤ 14 * tsize x
  | ⟨a, b, c, d, l⟩, hg, h => by
    rw [good] at hg
    simp only [Bool.and_eq_true, decide_eq_true_eq] at hg
    rw [tsize] at h ⊢
    have h1 := bytesL_le l hg.2 (by omega)
    have h2 := identT_le a b c hg.1.1.1.2 hg.1.1.2
    rw [bytesT]
    have h3 := lenBytes_le (d ++ bytesL l).length (by simp; omega)
    simp only [List.length_append] at h3 ⊢
    omega
theorem bytesL_le : ∀ l : List S29, goodL l = true → tsizeL l < 72057594037927936 → (bytesL l).length ≤ 14 * tsizeL l
  | [], _, _ => by simp [bytesL]
  | x :: xs, hg, h => by
    rw [goodL, Bool.and_eq_true] at hg
    rw [tsizeL] at h ⊢
    have h1 := bytesT_le x hg.1 (by omega)
    have h2 := bytesL_le xs hg.2 (by omega)
    rw [bytesL, List.length_append]
    omega
end

theorem or_len (n : Nat) (h : n ≤ 8) : Go.bits .or .u8 128 ((n : Int) % 256) = 128 + (n : Int) := by
  have := or128 ⟨n, by omega⟩
  rw [show (n : Int) % 256 = (n : Int) by omega]
  exact this

def ndz (n : Nat) : Nat := if n = 0 then 0 else nd n

theorem len_loop : ∀ (m n : Nat) (acc : List Int), n < 256 ^ m → acc.length + m ≤ 8 →
    spec_Length.l0 (m + 1) (n : Int) acc = some ((128 + ((acc.length + ndz n : Nat) : Int)) :: (be n (ndz n) ++ acc)) := by
  intro m
  induction m with
  | zero =>
    intro n acc h ha
    obtain rfl : n = 0 := by simpa using h
    unfold spec_Length.l0
    rw [if_neg (by omega)]
    simp only [Option.bind_some]
    rw [if_pos (by simp; omega), or_len _ (by omega)]
    simp [ndz, be]
  | succ m ih =>
    intro n acc h ha
    unfold spec_Length.l0
    by_cases hz : n = 0
    · subst hz
      rw [if_neg (by omega)]
      simp only [Option.bind_some]
      rw [if_pos (by simp; omega), or_len _ (by omega)]
      simp [ndz, be]
    · rw [if_pos (by omega)]
      simp only [Option.bind_some]
      rw [if_pos (by simp; omega)]
      have hr := ih (n / 256) ([(n : Int) % 256] ++ acc) (by rw [Nat.div_lt_iff_lt_mul (by omega)]; rw [Nat.pow_succ] at h; exact h) (by simp; omega)
      rw [show (n : Int) / 256 = ((n / 256 : Nat) : Int) by omega, hr]
      have hd : ndz n = ndz (n / 256) + 1 := by
        unfold ndz
        by_cases hs : n < 256
        · rw [if_neg hz, nd_small hs, if_pos (by omega)]
        · rw [if_neg hz, nd_great hs, if_neg (by omega)]
      rw [hd, be_snoc]
      congr 2
      · simp only [List.length_append, List.length_singleton]
        omega
      · simp

theorem len_spec (n : Nat) (h : n < 256 ^ 7) : spec_Length.f 8 (n : Int) = some (lenBytes n) := by
  unfold spec_Length.f lenBytes
  by_cases hs : n < 128
  · rw [if_pos (by omega), if_pos hs, show (n : Int) % 256 = (n : Int) by omega]
  · rw [if_neg (by omega), if_neg hs, len_loop 7 n [] h (by simp)]
    simp [ndz, show n ≠ 0 by omega]

mutual
theorem bytes_ex : ∀ x : S29, good x = true → tsize x < 1099511627776 → ∃ k, spec_Bytes.f k x.f0 x.f1 x.f2 x.f3 x.f4 = some (bytesT x)
  | ⟨a, b, c, d, l⟩, hg, h => by
    have hg' := hg
    rw [good] at hg'
    simp only [Bool.and_eq_true, decide_eq_true_eq] at hg'
    have ht := h
    rw [tsize] at ht
    obtain ⟨k, hk⟩ := bytesL_ex l d [] a b c d hg'.2 hg'.1.1.1.1.1 hg'.1.1.1.1.2 hg'.1.1.1.2 hg'.1.1.2 (by have := len_le_tsB l; simp; omega) (by omega)
    refine ⟨k + 1, ?_⟩
    rw [spec_Bytes.f]
    simp only [Option.bind_some]
    rw [if_pos (by simp; omega)]
    rw [bytesT]
    simpa using hk
theorem bytesL_ex : ∀ (l : List S29) (acc : List Int) (pre : List S29) (a b : Int) (c : Bool) (d : List Int), goodL l = true → 0 ≤ a → a ≤ 3 → 0 ≤ b → b < 268435456 → pre.length + l.length < 4611686018427387904 → acc.length + 14 * tsizeL l < 15393162788864 →
    ∃ k, spec_Bytes.l0 k acc (pre ++ l) ((pre ++ l).length : Int) (pre.length : Int) a b c d (pre ++ l) = some (identT a b c ++ lenBytes (acc ++ bytesL l).length ++ (acc ++ bytesL l))
  | [], acc, pre, a, b, c, d, hg, a0, a1, b0, b1, h1, h2 => by
    refine ⟨9, ?_⟩
    rw [spec_Bytes.l0, if_neg (by simp)]
    rw [at_rounds (fun k => spec_Identifier.mono a b c d (pre ++ []) k) (show 7 ≤ 8 by omega) (spec_ident a b c d (pre ++ []) a0 a1 b0 b1), len_spec acc.length (by simp [tsizeL] at h2; simp; omega)]
    have hi := identT_le a b c b0 b1
    have hl := lenBytes_le acc.length (by simp [tsizeL] at h2; simp; omega)
    simp only [Option.bind_some, bytesL, List.append_nil]
    rw [if_pos (by omega), if_pos (by simp [tsizeL] at h2; simp; omega)]
  | x :: xs, acc, pre, a, b, c, d, hg, a0, a1, b0, b1, h1, h2 => by
    rw [tsizeL] at h2
    rw [List.length_cons] at h1
    rw [goodL, Bool.and_eq_true] at hg
    have hx := bytesT_le x hg.1 (by omega)
    obtain ⟨k1, e1⟩ := bytes_ex x hg.1 (by omega)
    obtain ⟨k2, e2⟩ := bytesL_ex xs (acc ++ bytesT x) (pre ++ [x]) a b c d hg.2 a0 a1 b0 b1 (by simp; omega) (by simp; omega)
    have e1' := at_rounds (fun k => spec_Bytes.mono x.f0 x.f1 x.f2 x.f3 x.f4 k) (Nat.le_max_left k1 k2) e1
    have e2' := at_rounds (fun k => (spec_Bytes.mono_l k).2 _ _ _ _ _ _ _ _ _) (Nat.le_max_right k1 k2) e2
    refine ⟨max k1 k2 + 1, ?_⟩
    rw [spec_Bytes.l0, if_pos (by simp; omega), if_pos (by omega), if_pos (by simp; omega), rd_midB, e1']
    simp only [Option.bind_some]
    rw [if_pos (by omega)]
    have ew : wrap64 ((pre.length : Int) + 1) = (((pre ++ [x]).length : Nat) : Int) := by
      unfold wrap64
      simp
      omega
    rw [ew, bytesL]
    simpa using e2'
end
end Go.Proofs.YtejbpbdlolehnaaDoor.Tree
