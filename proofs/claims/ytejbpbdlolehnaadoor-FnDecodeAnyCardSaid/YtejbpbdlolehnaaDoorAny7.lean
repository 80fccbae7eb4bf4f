/- Parts of the proof of one law, in the order in which they build. The identifier of a packet: a tag of many bytes; whole, or cut. · The header of a packet, whole or cut. · (*io.LimitedReader).Read. -/
import Derived.Test.YtejbpbdlolehnaaDoorAny1
import Derived.Test.YtejbpbdlolehnaaDoorAny2
import Derived.Test.YtejbpbdlolehnaaDoorAny3
import Derived.Test.YtejbpbdlolehnaaDoorAny4
import Derived.Test.YtejbpbdlolehnaaDoorAny5
import Derived.Test.YtejbpbdlolehnaaDoorAny6
namespace Go.Proofs.YtejbpbdlolehnaaDoor.Ber
open Go.RowKit Go.Proofs.YtejbpbdlolehnaaDoorW.PrintWords Go.Proofs.YtejbpbdlolehnaaDoorW.PrintLast Go.Proofs.YtejbpbdlolehnaaDoor.Buf Go.Proofs.YtejbpbdlolehnaaDoor.Pk Go.Proofs.YtejbpbdlolehnaaDoor.Tree
set_option linter.unusedVariables false
set_option linter.unusedSimpArgs false
theorem and_u64 : ∀ n : Fin 256, Go.bits .and .u64 ((n : Nat) : Int) 127 = ((n.val % 128 : Nat) : Int) ∧ Go.bits .and .u64 ((n : Nat) : Int) 128 = if n.val < 128 then 0 else 128 := by decide +kernel
theorem or_u64_7 (u z : Int) (h0 : 0 ≤ u) (h1 : u < 2097152) (z0 : 0 ≤ z) (z1 : z < 128) : Go.bits .or .u64 (u * 128) z = u * 128 + z := by
  obtain ⟨M, rfl⟩ : ∃ M : Nat, u = M := ⟨u.toNat, by omega⟩
  obtain ⟨b, rfl⟩ : ∃ b : Nat, z = b := ⟨z.toNat, by omega⟩
  show IntKind.u64.wrap ((BitVec.ofInt 64 ((M : Int) * 128) ||| BitVec.ofInt 64 (b : Int)).toNat : Int) = _
  rw [BitVec.toNat_or, BitVec.toNat_ofInt, BitVec.toNat_ofInt]
  have e0 : ((2 ^ 64 : Nat) : Int) = 18446744073709551616 := by decide
  rw [e0]
  have e1 : ((M : Int) * 128 % 18446744073709551616).toNat = 2 ^ 7 * M := by omega
  have e2 : ((b : Int) % 18446744073709551616).toNat = b := by omega
  rw [e1, e2]
  have e3 : 2 ^ 7 * M ||| b = 2 ^ 7 * M + b := (Nat.two_pow_add_eq_or_of_lt (show b < 2 ^ 7 by omega) M).symm
  rw [e3]
  show IntKind.u64.wrap _ = _
  rw [IntKind.wrap_u64]
  omega
/-- the tag so far, of j bytes -/
def TagI (j : Nat) (acc : Int) : Prop := (j = 0 ∧ acc = 0) ∨ (1 ≤ j ∧ ((128 ^ (j - 1) : Nat) : Int) ≤ acc)
theorem TagI.nonneg {j : Nat} {acc : Int} (h : TagI j acc) : 0 ≤ acc := by
  rcases h with ⟨_, rfl⟩ | ⟨_, h⟩
  · exact Int.le_refl _
  · exact Int.le_trans (Int.natCast_nonneg _) h
theorem TagI.le {j : Nat} {acc : Int} (h : TagI j acc) (h1 : acc < 2097152) : j ≤ 3 := by
  rcases h with ⟨rfl, _⟩ | ⟨h0, h⟩
  · omega
  · rcases Nat.lt_or_ge 3 j with hj | hj
    · have h2 : 128 ^ 3 ≤ 128 ^ (j - 1) := Nat.pow_le_pow_right (by decide) (by omega)
      have h3 : (128 ^ 3 : Nat) = 2097152 := by decide
      omega
    · exact hj
theorem TagI.step {j : Nat} {acc z : Int} (h : TagI j acc) (hz0 : 0 ≤ z) (hz : ¬ (j = 0 ∧ z = 0)) : TagI (j + 1) (acc * 128 + z) := by
  refine .inr ⟨by omega, ?_⟩
  rw [Nat.add_sub_cancel]
  rcases h with ⟨rfl, rfl⟩ | ⟨h0, h⟩
  · rw [Nat.pow_zero]; omega
  · obtain ⟨i, rfl⟩ : ∃ i, j = i + 1 := ⟨j - 1, by omega⟩
    rw [Nat.add_sub_cancel] at h
    rw [Nat.pow_succ]
    omega
section
variable {T F : Nat} {r : Value} {g B : Nat} {va ua : Addr} {Q : World → List Int → Prop}
set_option maxHeartbeats 3200000 in
set_option maxRecDepth 100000 in
theorem readId_high (R : RdSpec T F r g B va ua Q) (W : World) (b : Int) (l m : List Int) (tag : Int) (k : Nat) (hQ : Q W (b :: l)) (hB : B ≤ W.heap.size) (b0 : 0 ≤ b) (b1 : b < 256) (hs : b % 32 = 31) (ht : tagB (l ++ m) 0 0 = some (tag, k)) (hx : ∀ x ∈ l, 0 ≤ x ∧ x < 256) :
    Calls Tryd.prog 52 #[.iface T r] W fun e w' => (k ≤ l.length → e = .returned (.tuple #[.agg #[.int .u8 (b / 64 * 64), .int .u8 (b / 32 % 2 * 32), .int .u64 tag], .int .i64 ((k + 1 : Nat) : Int), .nilIface]) ∧ Q w' (l.drop k)) ∧
      (l.length < k → (∃ q, e = .returned (.tuple #[.agg #[.int .u8 0, .int .u8 0, .int .u64 0], .int .i64 q, (.iface 104 (.pointer (some ua)))])) ∧ Q w' []) ∧ Only (fun b => b = g) W w' := by
  obtain ⟨W0, hW0⟩ : ∃ W0, W0 = (W.alloc (.cells #[.int .u8 0, .int .u8 0, .int .u64 0] 69)).alloc (.cells #[.int .u8 0, .int .u8 0, .int .u64 0] 69) := ⟨_, rfl⟩
  have hb0 : Below W.heap.size W W0 := by rw [hW0]; exact below_alloc (below_alloc (Below.refl _ _) _) _
  have hX0 : W0.heap[W.heap.size]? = some (.cells #[.int .u8 0, .int .u8 0, .int .u64 0] 69 (0, 0)) := by rw [hW0]; exact blk_alloc (blk_new _ _) _
  have hY0 : W0.heap[W.heap.size + 1]? = some (.cells #[.int .u8 0, .int .u8 0, .int .u64 0] 69 (0, 0)) := by
    have := blk_new (W.alloc (.cells #[.int .u8 0, .int .u8 0, .int .u64 0] 69)) (.cells #[.int .u8 0, .int .u8 0, .int .u64 0] 69)
    have e : (W.alloc (.cells #[.int .u8 0, .int .u8 0, .int .u64 0] 69)).heap.size = W.heap.size + 1 := by simp
    rw [e, ← hW0] at this
    exact this
  have hgs : g < W.heap.size := Nat.lt_of_lt_of_le R.lt hB
  obtain ⟨x1, hx1⟩ : ∃ x1, x1 = b / 64 * 64 := ⟨_, rfl⟩
  obtain ⟨x2, hx2⟩ : ∃ x2, x2 = b / 32 % 2 * 32 := ⟨_, rfl⟩
  have HA : Hid (Calls Tryd.prog 65 #[.iface T r] W0 fun e w' => e = .returned (.tuple #[.int .u8 b, .nilIface]) ∧ Q w' l ∧ w'.heap[W.heap.size]? = some (.cells #[.int .u8 0, .int .u8 0, .int .u64 0] 69 (0, 0)) ∧ w'.heap[W.heap.size + 1]? = some (.cells #[.int .u8 0, .int .u8 0, .int .u64 0] 69 (0, 0)) ∧ Only (fun b => b = g) W w') := Lib.hid (by
    refine (readByte_some R W0 b l (R.keep W W0 _ hQ (fun i hi => hb0.block i (Nat.lt_of_lt_of_le hi hB))) (Nat.le_trans hB hb0.size)).mono ?_
    rintro e w' ⟨he, hq, ho⟩
    exact ⟨he, hq, (ho.block _ (blk_lt hX0) (by omega)).trans hX0, (ho.block _ (blk_lt hY0) (by omega)).trans hY0, (Only.of_below (fun b => b = g) hb0).trans ho (fun i _ h => h)⟩)
  have HRB : Hid (∀ (W' : World) (x acc : Int) (n : List Int), Q W' (x :: n) → Only (fun b => b = g) W W' → W'.heap[W.heap.size]? = some (.cells #[.int .u8 0, .int .u8 0, .int .u64 0] 69 (0, 0)) → W'.heap[W.heap.size + 1]? = some (.cells #[.int .u8 x1, .int .u8 x2, .int .u64 acc] 69 (0, 0)) →
      Calls Tryd.prog 65 #[.iface T r] W' fun e w' => e = .returned (.tuple #[.int .u8 x, .nilIface]) ∧ Q w' n ∧ w'.heap[W.heap.size]? = some (.cells #[.int .u8 0, .int .u8 0, .int .u64 0] 69 (0, 0)) ∧ w'.heap[W.heap.size + 1]? = some (.cells #[.int .u8 x1, .int .u8 x2, .int .u64 acc] 69 (0, 0)) ∧ Only (fun b => b = g) W w') := Lib.hid (fun W' x acc n hq ho hX hY => by
    refine (readByte_some R W' x n hq (Nat.le_trans hB ho.size)).mono ?_
    rintro e w' ⟨he, hq', ho'⟩
    exact ⟨he, hq', (ho'.block _ (blk_lt hX) (by omega)).trans hX, (ho'.block _ (blk_lt hY) (by omega)).trans hY, ho.trans ho' (fun i _ h => h)⟩)
  have HNO : Hid (∀ (W' : World) (acc : Int), Q W' [] → Only (fun b => b = g) W W' → W'.heap[W.heap.size]? = some (.cells #[.int .u8 0, .int .u8 0, .int .u64 0] 69 (0, 0)) → W'.heap[W.heap.size + 1]? = some (.cells #[.int .u8 x1, .int .u8 x2, .int .u64 acc] 69 (0, 0)) →
      Calls Tryd.prog 65 #[.iface T r] W' fun e w' => e = .returned (.tuple #[.int .u8 0, (.iface 104 (.pointer (some va)))]) ∧ Q w' [] ∧ w'.heap[W.heap.size]? = some (.cells #[.int .u8 0, .int .u8 0, .int .u64 0] 69 (0, 0)) ∧ w'.heap[W.heap.size + 1]? = some (.cells #[.int .u8 x1, .int .u8 x2, .int .u64 acc] 69 (0, 0)) ∧ Only (fun b => b = g) W w') := Lib.hid (fun W' acc hq ho hX hY => by
    refine (readByte_none R W' hq (Nat.le_trans hB ho.size)).mono ?_
    rintro e w' ⟨he, hq', ho'⟩
    exact ⟨he, hq', (ho'.block _ (blk_lt hX) (by omega)).trans hX, (ho'.block _ (blk_lt hY) (by omega)).trans hY, ho.trans ho' (fun i _ h => h)⟩)
  have HE : Hid (∀ W', Q W' [] → Calls Tryd.prog 37 #[(.iface 104 (.pointer (some va)))] W' fun e w' => e = .returned (.iface 104 (.pointer (some ua))) ∧ w' = W') := Lib.hid (fun W' h => eof_turn va ua W' (R.eof _ _ h) (R.ueof _ _ h))
  obtain ⟨a1, a2, a3⟩ := bits_id ⟨b.toNat, by omega⟩
  simp only [Int.toNat_of_nonneg b0] at a1 a2 a3
  have e1 : Go.bits .and .u8 b 192 = x1 := by rw [a1, hx1]; omega
  have e2 : Go.bits .and .u8 b 32 = x2 := by rw [a2, hx2]; omega
  have e3 : Go.bits .and .u64 b 31 = 31 := by rw [a3]; omega
  have HKQ : Hid (∀ W5 W' n, Q W5 n → W.heap.size ≤ W5.heap.size → (∀ i, i < W.heap.size → W'.heap[i]? = W5.heap[i]?) → Q W' n) := Lib.hid (fun W5 W' n hq _ h => R.keep W5 W' n hq (fun i hi => h i (Nat.lt_of_lt_of_le hi hB)))
  have HW0 := Lib.hid hW0
  have HX := Lib.hid hx
  have HT := Lib.hid ht
  rw [← hx1, ← hx2]
  clear hQ R hB hb0 hX0 hY0 hW0 a1 a2 a3 hx1 hx2 hs hx ht
  go_enter Tryd.func52, Tryd.ntmps52
  go_upto_region 3 with fail
  rw [← HW0.out]
  go_wp2_with (go_at_call 65
               with_reducible refine HA.out.mono ?_
               rintro e W5 ⟨rfl, hQ5, hX5, hY5, hO5⟩
               have HQ5 := Lib.hid hQ5
               have HX5 := Lib.hid hX5
               have HY5 := Lib.hid hY5
               have HO5 := Lib.hid hO5
               have s0 : W5.cell? ⟨W.heap.size + 1, 0, none⟩ = some (.int .u8 0) := blk_cell hY5 0
               have s1 : W5.cell? ⟨W.heap.size + 1, 1, none⟩ = some (.int .u8 0) := blk_cell hY5 1
               have s2 : W5.cell? ⟨W.heap.size + 1, 2, none⟩ = some (.int .u64 0) := blk_cell hY5 2
               have f0 : W5.frozen? ⟨W.heap.size + 1, 0, none⟩ = false := blk_frozen hY5 0
               have f1 : W5.frozen? ⟨W.heap.size + 1, 1, none⟩ = false := blk_frozen hY5 1
               have f2 : W5.frozen? ⟨W.heap.size + 1, 2, none⟩ = false := blk_frozen hY5 2
               have p0 : W5.cell? ⟨W.heap.size, 0, none⟩ = some (.int .u8 0) := blk_cell hX5 0
               have p1 : W5.cell? ⟨W.heap.size, 1, none⟩ = some (.int .u8 0) := blk_cell hX5 1
               have p2 : W5.cell? ⟨W.heap.size, 2, none⟩ = some (.int .u64 0) := blk_cell hX5 2
               have pf0 : W5.frozen? ⟨W.heap.size, 0, none⟩ = false := blk_frozen hX5 0
               have pf1 : W5.frozen? ⟨W.heap.size, 1, none⟩ = false := blk_frozen hX5 1
               have pf2 : W5.frozen? ⟨W.heap.size, 2, none⟩ = false := blk_frozen hX5 2
               clear hQ5 hX5 hY5 hO5)
  go_loopw [6, 10] (fun rd tb wr => ∃ (j : Nat) (acc q t : Int), rd = .int .i64 q ∧ q = (j : Int) + 1 ∧ tb = .int .i64 t ∧ t = (j : Int) ∧ j ≤ l.length ∧ Hid (tagB (l.drop j ++ m) acc j = some (tag, k) ∧ TagI j acc ∧ Q wr (l.drop j) ∧ wr.heap[W.heap.size]? = some (.cells #[.int .u8 0, .int .u8 0, .int .u64 0] 69 (0, 0)) ∧ wr.heap[W.heap.size + 1]? = some (.cells #[.int .u8 x1, .int .u8 x2, .int .u64 acc] 69 (0, 0)) ∧ Only (fun b => b = g) W wr)) (fun _ tb _ => l.length - (intOf tb).toNat)
  case atStart =>
    refine ⟨0, 0, 1, 0, rfl, rfl, rfl, rfl, Nat.zero_le _, Lib.hid ⟨HT.out, .inl ⟨rfl, rfl⟩, ?_, ?_, ?_, ?_⟩⟩
    · refine HKQ.out W5 _ _ HQ5.out HO5.out.size (fun i hi => ?_)
      rw [Below.heap_setCell _ ⟨W.heap.size + 1, 1, none⟩ _ i (by show i ≠ W.heap.size + 1; omega), Below.heap_setCell _ ⟨W.heap.size + 1, 0, none⟩ _ i (by show i ≠ W.heap.size + 1; omega)]
    · exact blk_far (blk_far HX5.out (p := ⟨W.heap.size + 1, 0, none⟩) (by simp) (.int .u8 x1)) (p := ⟨W.heap.size + 1, 1, none⟩) (by simp) (.int .u8 x2)
    · exact blk_set (blk_set HY5.out 0 (.int .u8 x1)) 1 (.int .u8 x2)
    · exact (HO5.out.setCell (a := ⟨W.heap.size + 1, 0, none⟩) (fun h => absurd h (by simp)) _).setCell (a := ⟨W.heap.size + 1, 1, none⟩) (fun h => absurd h (by simp)) _
  case round =>
    obtain ⟨j, acc, q, t, rfl, hq, rfl, hj, hjl, HP⟩ := hrel
    have HQQ := Lib.hid hq
    have HTJ := Lib.hid hj
    obtain ⟨hT, hI, hQj, hXj, hYj, hOj⟩ := HP.out
    have ha0 := hI.nonneg
    clear hq HQ5 HX5 HY5 HO5 s0 s1 s2 f0 f1 f2 p0 p1 p2 pf0 pf1 pf2
    by_cases hlt : j < l.length
    · rw [List.drop_eq_getElem_cons hlt, List.cons_append, tagB] at hT
      have hxk := HX.out l[j] (List.getElem_mem hlt)
      have HRX := Lib.hid (HRB.out wr l[j] acc (l.drop (j + 1)) (by rwa [List.drop_eq_getElem_cons hlt] at hQj) hOj hXj hYj)
      obtain ⟨z, hz⟩ : ∃ z, z = l[j] := ⟨_, rfl⟩
      rw [← hz] at hT hxk HRX
      by_cases h1 : 2097152 ≤ acc
      · rw [if_pos h1] at hT; cases hT
      by_cases h2 : j = 0 ∧ z % 128 = 0
      · rw [if_neg h1, if_pos h2] at hT; cases hT
      rw [if_neg h1, if_neg h2] at hT
      have hz0 : 0 ≤ z := hxk.1
      have hz1 : z < 256 := hxk.2
      have ha1 : acc < 2097152 := by omega
      have hj3 := hI.le ha1
      obtain ⟨z7, hz7⟩ : ∃ z7, z7 = z % 128 := ⟨_, rfl⟩
      obtain ⟨a2, ha2⟩ : ∃ a2, a2 = acc * 128 + z7 := ⟨_, rfl⟩
      have HI2 : Hid (TagI (j + 1) a2) := Lib.hid (by rw [ha2]; exact hI.step (by omega) (fun h => h2 ⟨h.1, by omega⟩))
      rw [← hz7, ← ha2] at hT
      obtain ⟨c1, c2⟩ := and_u64 ⟨z.toNat, by omega⟩
      simp only [Int.toNat_of_nonneg hz0] at c1 c2
      have w1 : Go.bits .and .u64 z 127 = z7 := by rw [c1, hz7]; omega
      have w2 : Go.bits .or .u64 (acc * 128) z7 = a2 := by rw [or_u64_7 acc z7 ha0 ha1 (by omega) (by omega), ha2]
      have w3 : (a2 == 0) = true → j ≠ 0 := fun h e => h2 ⟨e, by simp at h; omega⟩
      have hb2 : 0 ≤ a2 := by omega
      have ht0 : 0 ≤ t := by omega
      have ht3 : t ≤ 3 := by omega
      have hq0 : 0 ≤ q := by have := HQQ.out; omega
      have hq4 : q ≤ 4 := by have := HQQ.out; omega
      have HJT : Hid (j ≤ 3) := Lib.hid hj3
      have hd9 : decide (9 < t + 1) = false := decide_eq_false (by omega)
      by_cases h3 : z < 128
      · rw [if_pos h3] at hT
        have HTG : Hid (tag = a2) := Lib.hid (by injection hT with h; injection h with h h'; exact h.symm)
        have HKJ : Hid (k = j + 1) := Lib.hid (by injection hT with h; injection h with h h'; exact h'.symm)
        have HK : Hid (k ≤ l.length) := Lib.hid (by rw [HKJ.out]; exact hlt)
        have w4 : Go.bits .and .u64 z 128 = 0 := by rw [c2, if_pos (by omega)]
        by_cases h0 : t = 0
        · subst h0
          have w5 : (a2 == 0) = false := by
            cases e : (a2 == 0) with
            | false => rfl
            | true => exact absurd (by omega) (w3 e)
          clear hT hI hQj hXj hYj hOj hxk c1 c2 hz7 ha2 h1 h2 h3 hj3 hz w3 hj
          go_wp2_with (go_at_call 65
                       with_reducible refine HRX.out.mono ?_
                       rintro e W6 ⟨rfl, hQ6, hX6, hY6, hO6⟩
                       have HQ6 := Lib.hid hQ6
                       have HX6 := Lib.hid hX6
                       have HY6 := Lib.hid hY6
                       have HO6 := Lib.hid hO6
                       have s0 : W6.cell? ⟨W.heap.size + 1, 0, none⟩ = some (.int .u8 x1) := blk_cell hY6 0
                       have s1 : W6.cell? ⟨W.heap.size + 1, 1, none⟩ = some (.int .u8 x2) := blk_cell hY6 1
                       have s2 : W6.cell? ⟨W.heap.size + 1, 2, none⟩ = some (.int .u64 acc) := blk_cell hY6 2
                       have f0 : W6.frozen? ⟨W.heap.size + 1, 0, none⟩ = false := blk_frozen hY6 0
                       have f1 : W6.frozen? ⟨W.heap.size + 1, 1, none⟩ = false := blk_frozen hY6 1
                       have f2 : W6.frozen? ⟨W.heap.size + 1, 2, none⟩ = false := blk_frozen hY6 2
                       have p0 : W6.cell? ⟨W.heap.size, 0, none⟩ = some (.int .u8 0) := blk_cell hX6 0
                       have p1 : W6.cell? ⟨W.heap.size, 1, none⟩ = some (.int .u8 0) := blk_cell hX6 1
                       have p2 : W6.cell? ⟨W.heap.size, 2, none⟩ = some (.int .u64 0) := blk_cell hX6 2
                       have pf0 : W6.frozen? ⟨W.heap.size, 0, none⟩ = false := blk_frozen hX6 0
                       have pf1 : W6.frozen? ⟨W.heap.size, 1, none⟩ = false := blk_frozen hX6 1
                       have pf2 : W6.frozen? ⟨W.heap.size, 2, none⟩ = false := blk_frozen hX6 2
                       clear hQ6 hX6 hY6 hO6)
          try simp only [Exit.inBlock, Exit.then]
          have hY7 := blk_set (blk_set HY6.out 2 (.int .u64 (acc * 128))) 2 (.int .u64 a2)
          have hX7 := blk_set (blk_set (blk_set (blk_far (blk_far HX6.out (p := ⟨W.heap.size + 1, 2, none⟩) (by simp) (.int .u64 (acc * 128))) (p := ⟨W.heap.size + 1, 2, none⟩) (by simp) (.int .u64 a2)) 0 (.int .u8 x1)) 1 (.int .u8 x2)) 2 (.int .u64 a2)
          refine bodyPost_ret (results_ctt (p := 2) (u := 3) (q := 4) rfl _ _ _ _ _ _ _ rfl hX7 Tryd.underlying69 rfl (by kernel_rfl)) rfl ⟨fun _ => ⟨?_, ?_⟩, fun h => absurd h (by have := HK.out; omega), ?_⟩
          · have e : q + 1 = ((j + 1 + 1 : Nat) : Int) := by have := HQQ.out; push_cast; omega
            show Ending.returned (.tuple #[.agg #[.int .u8 x1, .int .u8 x2, .int .u64 a2], .int .i64 (q + 1), .nilIface]) = _
            rw [HTG.out, HKJ.out, e]
          · rw [HKJ.out]
            refine HKQ.out W6 _ _ HQ6.out HO6.out.size (fun i hi => ?_)
            rw [Below.heap_setCell _ ⟨W.heap.size, 2, none⟩ _ i (by show i ≠ W.heap.size; omega), Below.heap_setCell _ ⟨W.heap.size, 1, none⟩ _ i (by show i ≠ W.heap.size; omega), Below.heap_setCell _ ⟨W.heap.size, 0, none⟩ _ i (by show i ≠ W.heap.size; omega),
              Below.heap_setCell _ ⟨W.heap.size + 1, 2, none⟩ _ i (by show i ≠ W.heap.size + 1; omega), Below.heap_setCell _ ⟨W.heap.size + 1, 2, none⟩ _ i (by show i ≠ W.heap.size + 1; omega)]
          · exact ((((HO6.out.setCell (a := ⟨W.heap.size + 1, 2, none⟩) (fun h => absurd h (by simp)) _).setCell (a := ⟨W.heap.size + 1, 2, none⟩) (fun h => absurd h (by simp)) _).setCell (a := ⟨W.heap.size, 0, none⟩) (fun h => absurd h (by simp)) _).setCell (a := ⟨W.heap.size, 1, none⟩) (fun h => absurd h (by simp)) _).setCell (a := ⟨W.heap.size, 2, none⟩) (fun h => absurd h (by simp)) _
        · have w5 : (t + 1 == 1) = false := by simp; omega
          clear hT hI hQj hXj hYj hOj hxk c1 c2 hz7 ha2 h1 h2 h3 hj3 hz w3 hj
          go_wp2_with (go_at_call 65
                       with_reducible refine HRX.out.mono ?_
                       rintro e W6 ⟨rfl, hQ6, hX6, hY6, hO6⟩
                       have HQ6 := Lib.hid hQ6
                       have HX6 := Lib.hid hX6
                       have HY6 := Lib.hid hY6
                       have HO6 := Lib.hid hO6
                       have s0 : W6.cell? ⟨W.heap.size + 1, 0, none⟩ = some (.int .u8 x1) := blk_cell hY6 0
                       have s1 : W6.cell? ⟨W.heap.size + 1, 1, none⟩ = some (.int .u8 x2) := blk_cell hY6 1
                       have s2 : W6.cell? ⟨W.heap.size + 1, 2, none⟩ = some (.int .u64 acc) := blk_cell hY6 2
                       have f0 : W6.frozen? ⟨W.heap.size + 1, 0, none⟩ = false := blk_frozen hY6 0
                       have f1 : W6.frozen? ⟨W.heap.size + 1, 1, none⟩ = false := blk_frozen hY6 1
                       have f2 : W6.frozen? ⟨W.heap.size + 1, 2, none⟩ = false := blk_frozen hY6 2
                       have p0 : W6.cell? ⟨W.heap.size, 0, none⟩ = some (.int .u8 0) := blk_cell hX6 0
                       have p1 : W6.cell? ⟨W.heap.size, 1, none⟩ = some (.int .u8 0) := blk_cell hX6 1
                       have p2 : W6.cell? ⟨W.heap.size, 2, none⟩ = some (.int .u64 0) := blk_cell hX6 2
                       have pf0 : W6.frozen? ⟨W.heap.size, 0, none⟩ = false := blk_frozen hX6 0
                       have pf1 : W6.frozen? ⟨W.heap.size, 1, none⟩ = false := blk_frozen hX6 1
                       have pf2 : W6.frozen? ⟨W.heap.size, 2, none⟩ = false := blk_frozen hX6 2
                       clear hQ6 hX6 hY6 hO6)
          try simp only [Exit.inBlock, Exit.then]
          have hY7 := blk_set (blk_set HY6.out 2 (.int .u64 (acc * 128))) 2 (.int .u64 a2)
          have hX7 := blk_set (blk_set (blk_set (blk_far (blk_far HX6.out (p := ⟨W.heap.size + 1, 2, none⟩) (by simp) (.int .u64 (acc * 128))) (p := ⟨W.heap.size + 1, 2, none⟩) (by simp) (.int .u64 a2)) 0 (.int .u8 x1)) 1 (.int .u8 x2)) 2 (.int .u64 a2)
          refine bodyPost_ret (results_ctt (p := 2) (u := 3) (q := 4) rfl _ _ _ _ _ _ _ rfl hX7 Tryd.underlying69 rfl (by kernel_rfl)) rfl ⟨fun _ => ⟨?_, ?_⟩, fun h => absurd h (by have := HK.out; omega), ?_⟩
          · have e : q + 1 = ((j + 1 + 1 : Nat) : Int) := by have := HQQ.out; push_cast; omega
            show Ending.returned (.tuple #[.agg #[.int .u8 x1, .int .u8 x2, .int .u64 a2], .int .i64 (q + 1), .nilIface]) = _
            rw [HTG.out, HKJ.out, e]
          · rw [HKJ.out]
            refine HKQ.out W6 _ _ HQ6.out HO6.out.size (fun i hi => ?_)
            rw [Below.heap_setCell _ ⟨W.heap.size, 2, none⟩ _ i (by show i ≠ W.heap.size; omega), Below.heap_setCell _ ⟨W.heap.size, 1, none⟩ _ i (by show i ≠ W.heap.size; omega), Below.heap_setCell _ ⟨W.heap.size, 0, none⟩ _ i (by show i ≠ W.heap.size; omega),
              Below.heap_setCell _ ⟨W.heap.size + 1, 2, none⟩ _ i (by show i ≠ W.heap.size + 1; omega), Below.heap_setCell _ ⟨W.heap.size + 1, 2, none⟩ _ i (by show i ≠ W.heap.size + 1; omega)]
          · exact ((((HO6.out.setCell (a := ⟨W.heap.size + 1, 2, none⟩) (fun h => absurd h (by simp)) _).setCell (a := ⟨W.heap.size + 1, 2, none⟩) (fun h => absurd h (by simp)) _).setCell (a := ⟨W.heap.size, 0, none⟩) (fun h => absurd h (by simp)) _).setCell (a := ⟨W.heap.size, 1, none⟩) (fun h => absurd h (by simp)) _).setCell (a := ⟨W.heap.size, 2, none⟩) (fun h => absurd h (by simp)) _
      · rw [if_neg h3] at hT
        have HT2 := Lib.hid hT
        have w4 : Go.bits .and .u64 z 128 = 128 := by rw [c2, if_neg (by omega)]
        by_cases h0 : t = 0
        · subst h0
          have w5 : (a2 == 0) = false := by
            cases e : (a2 == 0) with
            | false => rfl
            | true => exact absurd (by omega) (w3 e)
          clear hT hI hQj hXj hYj hOj hxk c1 c2 hz7 ha2 h1 h2 h3 hj3 hz w3 hj
          go_wp2_with (go_at_call 65
                       with_reducible refine HRX.out.mono ?_
                       rintro e W6 ⟨rfl, hQ6, hX6, hY6, hO6⟩
                       have HQ6 := Lib.hid hQ6
                       have HX6 := Lib.hid hX6
                       have HY6 := Lib.hid hY6
                       have HO6 := Lib.hid hO6
                       have s0 : W6.cell? ⟨W.heap.size + 1, 0, none⟩ = some (.int .u8 x1) := blk_cell hY6 0
                       have s1 : W6.cell? ⟨W.heap.size + 1, 1, none⟩ = some (.int .u8 x2) := blk_cell hY6 1
                       have s2 : W6.cell? ⟨W.heap.size + 1, 2, none⟩ = some (.int .u64 acc) := blk_cell hY6 2
                       have f0 : W6.frozen? ⟨W.heap.size + 1, 0, none⟩ = false := blk_frozen hY6 0
                       have f1 : W6.frozen? ⟨W.heap.size + 1, 1, none⟩ = false := blk_frozen hY6 1
                       have f2 : W6.frozen? ⟨W.heap.size + 1, 2, none⟩ = false := blk_frozen hY6 2
                       have p0 : W6.cell? ⟨W.heap.size, 0, none⟩ = some (.int .u8 0) := blk_cell hX6 0
                       have p1 : W6.cell? ⟨W.heap.size, 1, none⟩ = some (.int .u8 0) := blk_cell hX6 1
                       have p2 : W6.cell? ⟨W.heap.size, 2, none⟩ = some (.int .u64 0) := blk_cell hX6 2
                       have pf0 : W6.frozen? ⟨W.heap.size, 0, none⟩ = false := blk_frozen hX6 0
                       have pf1 : W6.frozen? ⟨W.heap.size, 1, none⟩ = false := blk_frozen hX6 1
                       have pf2 : W6.frozen? ⟨W.heap.size, 2, none⟩ = false := blk_frozen hX6 2
                       clear hQ6 hX6 hY6 hO6)
          refine ⟨⟨j + 1, a2, q + 1, 1, ?_, ?_, ?_, ?_, ?_, Lib.hid ⟨HT2.out, HI2.out, ?_, ?_, ?_, ?_⟩⟩, ?_⟩
          · first | rfl | go_num
          · have := HQQ.out; push_cast; omega
          · first | rfl | go_num
          · have := HTJ.out; push_cast; omega
          · exact hlt
          · refine HKQ.out W6 _ _ HQ6.out HO6.out.size (fun i hi => ?_)
            rw [Below.heap_setCell _ ⟨W.heap.size + 1, 2, none⟩ _ i (by show i ≠ W.heap.size + 1; omega), Below.heap_setCell _ ⟨W.heap.size + 1, 2, none⟩ _ i (by show i ≠ W.heap.size + 1; omega)]
          · exact blk_far (blk_far HX6.out (p := ⟨W.heap.size + 1, 2, none⟩) (by simp) (.int .u64 (acc * 128))) (p := ⟨W.heap.size + 1, 2, none⟩) (by simp) (.int .u64 a2)
          · exact blk_set (blk_set HY6.out 2 (.int .u64 (acc * 128))) 2 (.int .u64 a2)
          · exact (HO6.out.setCell (a := ⟨W.heap.size + 1, 2, none⟩) (fun h => absurd h (by simp)) _).setCell (a := ⟨W.heap.size + 1, 2, none⟩) (fun h => absurd h (by simp)) _
          · have e : wrap64 (1) = ((j + 1 : Nat) : Int) := by have := HTJ.out; unfold wrap64; omega
            have := HTJ.out
            simp [intOf]
            omega
        · have w5 : (t + 1 == 1) = false := by simp; omega
          clear hT hI hQj hXj hYj hOj hxk c1 c2 hz7 ha2 h1 h2 h3 hj3 hz w3 hj
          go_wp2_with (go_at_call 65
                       with_reducible refine HRX.out.mono ?_
                       rintro e W6 ⟨rfl, hQ6, hX6, hY6, hO6⟩
                       have HQ6 := Lib.hid hQ6
                       have HX6 := Lib.hid hX6
                       have HY6 := Lib.hid hY6
                       have HO6 := Lib.hid hO6
                       have s0 : W6.cell? ⟨W.heap.size + 1, 0, none⟩ = some (.int .u8 x1) := blk_cell hY6 0
                       have s1 : W6.cell? ⟨W.heap.size + 1, 1, none⟩ = some (.int .u8 x2) := blk_cell hY6 1
                       have s2 : W6.cell? ⟨W.heap.size + 1, 2, none⟩ = some (.int .u64 acc) := blk_cell hY6 2
                       have f0 : W6.frozen? ⟨W.heap.size + 1, 0, none⟩ = false := blk_frozen hY6 0
                       have f1 : W6.frozen? ⟨W.heap.size + 1, 1, none⟩ = false := blk_frozen hY6 1
                       have f2 : W6.frozen? ⟨W.heap.size + 1, 2, none⟩ = false := blk_frozen hY6 2
                       have p0 : W6.cell? ⟨W.heap.size, 0, none⟩ = some (.int .u8 0) := blk_cell hX6 0
                       have p1 : W6.cell? ⟨W.heap.size, 1, none⟩ = some (.int .u8 0) := blk_cell hX6 1
                       have p2 : W6.cell? ⟨W.heap.size, 2, none⟩ = some (.int .u64 0) := blk_cell hX6 2
                       have pf0 : W6.frozen? ⟨W.heap.size, 0, none⟩ = false := blk_frozen hX6 0
                       have pf1 : W6.frozen? ⟨W.heap.size, 1, none⟩ = false := blk_frozen hX6 1
                       have pf2 : W6.frozen? ⟨W.heap.size, 2, none⟩ = false := blk_frozen hX6 2
                       clear hQ6 hX6 hY6 hO6)
          refine ⟨⟨j + 1, a2, q + 1, t + 1, ?_, ?_, ?_, ?_, ?_, Lib.hid ⟨HT2.out, HI2.out, ?_, ?_, ?_, ?_⟩⟩, ?_⟩
          · first | rfl | go_num
          · have := HQQ.out; push_cast; omega
          · first | rfl | go_num
          · have := HTJ.out; push_cast; omega
          · exact hlt
          · refine HKQ.out W6 _ _ HQ6.out HO6.out.size (fun i hi => ?_)
            rw [Below.heap_setCell _ ⟨W.heap.size + 1, 2, none⟩ _ i (by show i ≠ W.heap.size + 1; omega), Below.heap_setCell _ ⟨W.heap.size + 1, 2, none⟩ _ i (by show i ≠ W.heap.size + 1; omega)]
          · exact blk_far (blk_far HX6.out (p := ⟨W.heap.size + 1, 2, none⟩) (by simp) (.int .u64 (acc * 128))) (p := ⟨W.heap.size + 1, 2, none⟩) (by simp) (.int .u64 a2)
          · exact blk_set (blk_set HY6.out 2 (.int .u64 (acc * 128))) 2 (.int .u64 a2)
          · exact (HO6.out.setCell (a := ⟨W.heap.size + 1, 2, none⟩) (fun h => absurd h (by simp)) _).setCell (a := ⟨W.heap.size + 1, 2, none⟩) (fun h => absurd h (by simp)) _
          · have e : wrap64 (t + 1) = ((j + 1 : Nat) : Int) := by have := HTJ.out; unfold wrap64; omega
            have := HTJ.out
            simp [intOf]
            omega
    · obtain rfl : j = l.length := by omega
      have HKG : Hid (l.length < k) := Lib.hid (by
        rw [List.drop_length, List.nil_append] at hT
        have h := (tagB_app [] hT).2.1
        simpa using h)
      have HNX := Lib.hid (HNO.out wr acc (by rwa [List.drop_length] at hQj) hOj hXj hYj)
      clear hT hI hQj hXj hYj hOj hj
      go_wp2_with (first
        | (go_at_call 65
           with_reducible refine HNX.out.mono ?_
           rintro e W6 ⟨rfl, hQ6, hX6, hY6, hO6⟩
           have HQ6 := Lib.hid hQ6
           have HX6 := Lib.hid hX6
           have HO6 := Lib.hid hO6
           have s0 : W6.cell? ⟨W.heap.size + 1, 0, none⟩ = some (.int .u8 x1) := blk_cell hY6 0
           have s1 : W6.cell? ⟨W.heap.size + 1, 1, none⟩ = some (.int .u8 x2) := blk_cell hY6 1
           have s2 : W6.cell? ⟨W.heap.size + 1, 2, none⟩ = some (.int .u64 acc) := blk_cell hY6 2
           have f0 : W6.frozen? ⟨W.heap.size + 1, 0, none⟩ = false := blk_frozen hY6 0
           have f1 : W6.frozen? ⟨W.heap.size + 1, 1, none⟩ = false := blk_frozen hY6 1
           have f2 : W6.frozen? ⟨W.heap.size + 1, 2, none⟩ = false := blk_frozen hY6 2
           have p0 : W6.cell? ⟨W.heap.size, 0, none⟩ = some (.int .u8 0) := blk_cell hX6 0
           have p1 : W6.cell? ⟨W.heap.size, 1, none⟩ = some (.int .u8 0) := blk_cell hX6 1
           have p2 : W6.cell? ⟨W.heap.size, 2, none⟩ = some (.int .u64 0) := blk_cell hX6 2
           have pf0 : W6.frozen? ⟨W.heap.size, 0, none⟩ = false := blk_frozen hX6 0
           have pf1 : W6.frozen? ⟨W.heap.size, 1, none⟩ = false := blk_frozen hX6 1
           have pf2 : W6.frozen? ⟨W.heap.size, 2, none⟩ = false := blk_frozen hX6 2
           clear hQ6 hX6 hY6 hO6)
        | (go_at_call 37
           with_reducible refine (HE.out W6 HQ6.out).mono ?_
           rintro e W7 ⟨rfl, rfl⟩))
      try simp only [Exit.inBlock, Exit.then]
      have hX7 := blk_set (blk_set (blk_set HX6.out 0 (.int .u8 0)) 1 (.int .u8 0)) 2 (.int .u64 0)
      refine bodyPost_ret (results_ctt (p := 2) (u := 3) (q := 4) rfl _ _ _ _ _ _ _ rfl hX7 Tryd.underlying69 rfl (by kernel_rfl)) rfl ⟨fun h => absurd h (by have := HKG.out; omega), fun _ => ⟨⟨q, rfl⟩, ?_⟩, ?_⟩
      · refine HKQ.out W7 _ _ HQ6.out HO6.out.size (fun i hi => ?_)
        rw [Below.heap_setCell _ ⟨W.heap.size, 2, none⟩ _ i (by show i ≠ W.heap.size; omega), Below.heap_setCell _ ⟨W.heap.size, 1, none⟩ _ i (by show i ≠ W.heap.size; omega), Below.heap_setCell _ ⟨W.heap.size, 0, none⟩ _ i (by show i ≠ W.heap.size; omega)]
      · exact ((HO6.out.setCell (a := ⟨W.heap.size, 0, none⟩) (fun h => absurd h (by simp)) _).setCell (a := ⟨W.heap.size, 1, none⟩) (fun h => absurd h (by simp)) _).setCell (a := ⟨W.heap.size, 2, none⟩) (fun h => absurd h (by simp)) _
end
end Go.Proofs.YtejbpbdlolehnaaDoor.Ber
namespace Go.Proofs.YtejbpbdlolehnaaDoor.Ber
open Go.RowKit Go.Proofs.YtejbpbdlolehnaaDoorW.PrintWords Go.Proofs.YtejbpbdlolehnaaDoorW.PrintLast Go.Proofs.YtejbpbdlolehnaaDoor.Buf Go.Proofs.YtejbpbdlolehnaaDoor.Pk Go.Proofs.YtejbpbdlolehnaaDoor.Tree
set_option linter.unusedVariables false
set_option linter.unusedSimpArgs false
theorem results_cttt {P : Program} {fn : Func} {p u q r : Tmp} {ty : TypeId} (h : fn.results = #[.cell p ty, .tmp u, .tmp q, .tmp r]) (tmps : Array Value) (w : World) (g : Nat) (t : TypeId) (cs : Array Value) (fr : Nat × Nat) (d : TypeDesc)
    (hp : tmps.getD p undef = .pointer (some ⟨g, 0, none⟩)) (hg : w.heap[g]? = some (.cells cs t fr))
    (hu : P.underlying ty = some d) (hd : (match d with | .struct _ | .array _ _ => true | _ => false) = true) (hi : (P.info? ty).map (·.size) = some cs.size) :
    (results fn tmps).run P w = .ok (.tuple #[.agg cs, tmps.getD u undef, tmps.getD q undef, tmps.getD r undef]) w := by
  have hp' : tmps[p]?.getD undef = .pointer (some ⟨g, 0, none⟩) := by simpa using hp
  simp [results, h, hp', asAddr, run_loadVar_row w g t ty cs fr d hg hu hd hi]
theorem ty_bit (b : Int) : b / 32 % 2 * 32 = if decide (b / 32 % 2 = 1) = true then 32 else 0 := by
  by_cases h : b / 32 % 2 = 1
  · rw [h, if_pos (by simp)]; rfl
  · rw [if_neg (by simpa using h)]; omega
theorem idB_bound {l : List Int} {r : Int × Bool × Int × Nat} (h : idB l = some r) : 1 ≤ r.2.2.2 := (idB_app [] h).2.1
theorem lenB_bound {l : List Int} {r : Int × Nat} (h : lenB l = some r) (hx : ∀ x ∈ l, 0 ≤ x ∧ x < 256) : 0 ≤ r.1 ∧ r.1 < 4294967296 ∧ r.2 ≤ 5 := by
  cases l with
  | nil => cases h
  | cons b l =>
    rw [lenB] at h
    have hb := hx b List.mem_cons_self
    by_cases h1 : b < 128
    · rw [if_pos h1] at h
      cases h
      exact ⟨hb.1, by simp only; omega, by simp only; omega⟩
    rw [if_neg h1] at h
    by_cases h2 : b = 128 ∨ 132 < b
    · rw [if_pos h2] at h; cases h
    rw [if_neg h2] at h
    by_cases h3 : (b - 128).toNat ≤ l.length
    · rw [if_pos h3] at h
      cases h
      have := beN_take_lt l (fun x hx' => hx x (List.mem_cons_of_mem _ hx')) (b - 128).toNat h3
      have h7 : 256 ^ (b - 128).toNat ≤ 256 ^ 4 := Nat.pow_le_pow_right (by decide) (by omega)
      have h8 : (256 ^ 4 : Nat) = 4294967296 := by decide
      exact ⟨this.1, by simp only; omega, by simp only; omega⟩
    · rw [if_neg h3] at h; cases h
theorem tagB_le : ∀ (l : List Int) (acc : Int) (n : Nat) (r : Int × Nat), (∀ x ∈ l, 0 ≤ x) → TagI n acc → tagB l acc n = some r → r.2 ≤ 4 ∧ 0 ≤ r.1 ∧ r.1 < 268435456
  | [], _, _, _, _, _, h => by cases h
  | b :: l, acc, n, r, hx, hi, h => by
    rw [tagB] at h
    by_cases h1 : 2097152 ≤ acc
    · rw [if_pos h1] at h; cases h
    by_cases h2 : n = 0 ∧ b % 128 = 0
    · rw [if_neg h1, if_pos h2] at h; cases h
    rw [if_neg h1, if_neg h2] at h
    have h4 := hi.le (by omega)
    have h5 := hi.nonneg
    by_cases h3 : b < 128
    · rw [if_pos h3] at h
      cases h
      exact ⟨by simp only; omega, by simp only; omega, by simp only; omega⟩
    · rw [if_neg h3] at h
      exact tagB_le l _ _ r (fun x hx' => hx x (List.mem_cons_of_mem _ hx')) (hi.step (by omega) h2) h
theorem idB_all {l : List Int} {r : Int × Bool × Int × Nat} (h : idB l = some r) (hx : ∀ x ∈ l, 0 ≤ x ∧ x < 256) : 0 ≤ r.1 ∧ r.1 ≤ 3 ∧ 0 ≤ r.2.2.1 ∧ r.2.2.1 < 268435456 ∧ r.2.2.2 ≤ 5 := by
  cases l with
  | nil => cases h
  | cons b l =>
    have hb := hx b List.mem_cons_self
    rw [idB] at h
    by_cases h1 : b % 32 < 31
    · rw [if_pos h1] at h
      cases h
      exact ⟨by simp only; omega, by simp only; omega, by simp only; omega, by simp only; omega, by simp only; omega⟩
    · rw [if_neg h1, Option.map_eq_some_iff] at h
      obtain ⟨t, ht, rfl⟩ := h
      have := tagB_le l 0 0 t (fun x hx' => (hx x (List.mem_cons_of_mem _ hx')).1) (.inl ⟨rfl, rfl⟩) ht
      exact ⟨by simp only; omega, by simp only; omega, by simp only; omega, by simp only; omega, by simp only; omega⟩
theorem hdrB_all {l : List Int} {r : Int × Bool × Int × Int × Nat} (h : hdrB l = some r) (hx : ∀ x ∈ l, 0 ≤ x ∧ x < 256) : 0 ≤ r.1 ∧ r.1 ≤ 3 ∧ 0 ≤ r.2.2.1 ∧ r.2.2.1 < 268435456 ∧ 0 ≤ r.2.2.2.1 ∧ r.2.2.2.1 < 4294967296 ∧ r.2.2.2.2 ≤ 10 := by
  unfold hdrB at h
  rw [Option.bind_eq_some_iff] at h
  obtain ⟨i, hi, h⟩ := h
  rw [Option.map_eq_some_iff] at h
  obtain ⟨n, hn, rfl⟩ := h
  have h1 := idB_all hi hx
  have h2 := lenB_bound hn (fun x hx' => hx x (List.mem_of_mem_drop hx'))
  exact ⟨h1.1, h1.2.1, h1.2.2.1, h1.2.2.2.1, h2.1, h2.2.1, by simp only; omega⟩
section
variable {T F : Nat} {r : Value} {g B : Nat} {va ua : Addr} {Q : World → List Int → Prop}
theorem readId_any (R : RdSpec T F r g B va ua Q) (W : World) (l m : List Int) (cls tag : Int) (c : Bool) (k : Nat) (hQ : Q W l) (hB : B ≤ W.heap.size) (h : idB (l ++ m) = some (cls, c, tag, k)) (hx : ∀ x ∈ l, 0 ≤ x ∧ x < 256) :
    Calls Tryd.prog 52 #[.iface T r] W fun e w' => (k ≤ l.length → e = .returned (.tuple #[.agg #[.int .u8 (cls * 64), .int .u8 (if c = true then 32 else 0), .int .u64 tag], .int .i64 k, .nilIface]) ∧ Q w' (l.drop k)) ∧
      (l.length < k → (∃ q v, e = .returned (.tuple #[.agg #[.int .u8 0, .int .u8 0, .int .u64 0], .int .i64 q, (.iface 104 (.pointer (some v)))]) ∧ (v = va ∨ v = ua)) ∧ Q w' []) ∧ Only (fun b => b = g) W w' := by
  cases l with
  | nil =>
    have hk := idB_bound h
    refine (readId_none R W hQ hB).mono ?_
    rintro e w' ⟨he, hq, ho⟩
    exact ⟨fun h => absurd h (by simp only [List.length_nil]; exact Nat.not_le.2 hk), fun _ => ⟨⟨0, va, he, .inl rfl⟩, hq⟩, ho⟩
  | cons b l =>
    have hb := hx b List.mem_cons_self
    rw [List.cons_append, idB] at h
    by_cases h1 : b % 32 < 31
    · rw [if_pos h1] at h
      injection h with h
      injection h with e1 h
      injection h with e2 h
      injection h with e3 e4
      refine (readId_short R W b l hQ hB hb.1 hb.2 h1).mono ?_
      rintro e w' ⟨he, hq, ho⟩
      refine ⟨fun _ => ⟨?_, ?_⟩, fun h => absurd h (by rw [← e4]; simp), ho⟩
      · rw [he, ← e1, ← e2, ← e3, ← e4, ty_bit]; rfl
      · rw [← e4]; exact hq
    · rw [if_neg h1, Option.map_eq_some_iff] at h
      obtain ⟨t, ht, h⟩ := h
      injection h with e1 h
      injection h with e2 h
      injection h with e3 e4
      refine (readId_high R W b l m t.1 t.2 hQ hB hb.1 hb.2 (by omega) ht (fun x hx' => hx x (List.mem_cons_of_mem _ hx'))).mono ?_
      rintro e w' ⟨h2, h3, ho⟩
      refine ⟨fun h => ?_, fun h => ?_, ho⟩
      · obtain ⟨he, hq⟩ := h2 (by rw [← e4] at h; simpa using h)
        refine ⟨?_, ?_⟩
        · rw [he, ← e1, ← e2, ← e3, ← e4, ty_bit]
        · rw [← e4]; exact hq
      · obtain ⟨⟨q, he⟩, hq⟩ := h3 (by rw [← e4] at h; simpa using h)
        exact ⟨⟨q, ua, he, .inr rfl⟩, hq⟩
theorem readLen_any (R : RdSpec T F r g B va ua Q) (W : World) (l m : List Int) (n : Int) (k : Nat) (hQ : Q W l) (hB : B ≤ W.heap.size) (h : lenB (l ++ m) = some (n, k)) (hx : ∀ x ∈ l, 0 ≤ x ∧ x < 256) :
    Calls Tryd.prog 53 #[.iface T r] W fun e w' => (k ≤ l.length → e = .returned (.tuple #[.int .i64 n, .int .i64 k, .nilIface]) ∧ Q w' (l.drop k)) ∧
      (l.length < k → (∃ q, e = .returned (.tuple #[.int .i64 0, .int .i64 q, (.iface 104 (.pointer (some ua)))])) ∧ Q w' []) ∧ Only (fun b => b = g) W w' := by
  cases l with
  | nil =>
    have hk : 1 ≤ k := (lenB_app [] h).2.1
    refine (readLen_none R W hQ hB).mono ?_
    rintro e w' ⟨he, hq, ho⟩
    exact ⟨fun h => absurd h (by simp only [List.length_nil]; exact Nat.not_le.2 hk), fun _ => ⟨⟨0, he⟩, hq⟩, ho⟩
  | cons b l =>
    have hb := hx b List.mem_cons_self
    have hx' : ∀ x ∈ l, 0 ≤ x ∧ x < 256 := fun x hx' => hx x (List.mem_cons_of_mem _ hx')
    rw [List.cons_append, lenB] at h
    by_cases h1 : b < 128
    · rw [if_pos h1] at h
      injection h with h
      injection h with e1 e2
      refine (readLen_short R W b l hQ hB hb.1 h1).mono ?_
      rintro e w' ⟨he, hq, ho⟩
      refine ⟨fun _ => ⟨?_, ?_⟩, fun h => absurd h (by rw [← e2]; simp), ho⟩
      · rw [he, ← e1, ← e2]; rfl
      · rw [← e2]; exact hq
    rw [if_neg h1] at h
    by_cases h2 : b = 128 ∨ 132 < b
    · rw [if_pos h2] at h; cases h
    rw [if_neg h2] at h
    by_cases h3 : (b - 128).toNat ≤ (l ++ m).length
    · rw [if_pos h3] at h
      injection h with h
      injection h with e1 e2
      by_cases h4 : (b - 128).toNat ≤ l.length
      · have hl : (l.take (b - 128).toNat).length = (b - 128).toNat := by rw [List.length_take]; omega
        refine (readLen_long R W b (l.take (b - 128).toNat) (l.drop (b - 128).toNat) (by rwa [List.take_append_drop]) hB (by omega) (by omega) (by omega) (fun x hx2 => hx' x (List.mem_of_mem_take hx2))).mono ?_
        rintro e w' ⟨he, hq, ho⟩
        refine ⟨fun _ => ⟨?_, ?_⟩, fun h => absurd h (by rw [← e2]; simpa using h4), ho⟩
        · rw [he, ← e1, ← e2, hl, List.take_append_of_le_length h4]
        · rw [← e2]; exact hq
      · refine (readLen_cut R W b l (b - 128) hQ hB (by omega) (by omega) (by omega) hx').mono ?_
        rintro e w' ⟨⟨q, _, he⟩, hq, ho⟩
        exact ⟨fun h => absurd h (by rw [← e2]; simpa using h4), fun _ => ⟨⟨q, he⟩, hq⟩, ho⟩
    · rw [if_neg h3] at h; cases h
set_option maxHeartbeats 3200000 in
set_option maxRecDepth 100000 in
theorem header_any (R : RdSpec T F r g B va ua Q) (W : World) (l m : List Int) (cls tag n : Int) (c : Bool) (k : Nat) (hQ : Q W l) (hB : B ≤ W.heap.size) (h : hdrB (l ++ m) = some (cls, c, tag, n, k)) (hx : ∀ x ∈ l ++ m, 0 ≤ x ∧ x < 256) :
    Calls Tryd.prog 36 #[.iface T r] W fun e w' => (k ≤ l.length → e = .returned (.tuple #[.agg #[.int .u8 (cls * 64), .int .u8 (if c = true then 32 else 0), .int .u64 tag], .int .i64 n, .int .i64 k, .nilIface]) ∧ Q w' (l.drop k)) ∧
      (l.length < k → (∃ q v, e = .returned (.tuple #[.agg #[.int .u8 0, .int .u8 0, .int .u64 0], .int .i64 0, .int .i64 q, (.iface 104 (.pointer (some v)))]) ∧ (v = va ∨ v = ua)) ∧ Q w' []) ∧ Only (fun b => b = g) W w' := by
  unfold hdrB at h
  rw [Option.bind_eq_some_iff] at h
  obtain ⟨⟨cls', c', tag', k1⟩, hi, h⟩ := h
  rw [Option.map_eq_some_iff] at h
  obtain ⟨⟨n', k2⟩, hl, h⟩ := h
  injection h with e1 h
  injection h with e2 h
  injection h with e3 h
  injection h with e4 e5
  simp only at e1 e2 e3 e4 e5 hl
  subst e1 e2 e3 e4 e5
  have hk1 := (idB_app [] hi).2
  have hk2 := (lenB_app [] hl).2
  have hn := lenB_bound hl (fun x hx' => hx x (List.mem_of_mem_drop hx'))
  simp only at hk1 hk2 hn
  have hxl : ∀ x ∈ l, 0 ≤ x ∧ x < 256 := fun x hx' => hx x (List.mem_append_left _ hx')
  obtain ⟨W0, hW0⟩ : ∃ W0, W0 = (W.alloc (.cells #[.int .u8 0, .int .u8 0, .int .u64 0] 69)).alloc (.cells #[.int .u8 0, .int .u8 0, .int .u64 0] 69) := ⟨_, rfl⟩
  have hb0 : Below W.heap.size W W0 := by rw [hW0]; exact below_alloc (below_alloc (Below.refl _ _) _) _
  have hX0 : W0.heap[W.heap.size]? = some (.cells #[.int .u8 0, .int .u8 0, .int .u64 0] 69 (0, 0)) := by rw [hW0]; exact blk_alloc (blk_new _ _) _
  have hY0 : W0.heap[W.heap.size + 1]? = some (.cells #[.int .u8 0, .int .u8 0, .int .u64 0] 69 (0, 0)) := by
    have := blk_new (W.alloc (.cells #[.int .u8 0, .int .u8 0, .int .u64 0] 69)) (.cells #[.int .u8 0, .int .u8 0, .int .u64 0] 69)
    have e : (W.alloc (.cells #[.int .u8 0, .int .u8 0, .int .u64 0] 69)).heap.size = W.heap.size + 1 := by simp
    rw [e, ← hW0] at this
    exact this
  have hgs : g < W.heap.size := Nat.lt_of_lt_of_le R.lt hB
  obtain ⟨i1, hi1⟩ : ∃ i1, i1 = cls' * 64 := ⟨_, rfl⟩
  obtain ⟨i2, hi2⟩ : ∃ i2, i2 = (if c' = true then (32 : Int) else 0) := ⟨_, rfl⟩
  obtain ⟨i3, hi3⟩ : ∃ i3, i3 = tag' := ⟨_, rfl⟩
  have HKQ : Hid (∀ W5 W' n, Q W5 n → W.heap.size ≤ W5.heap.size → (∀ i, i < W.heap.size → W'.heap[i]? = W5.heap[i]?) → Q W' n) := Lib.hid (fun W5 W' n hq _ h => R.keep W5 W' n hq (fun i hi => h i (Nat.lt_of_lt_of_le hi hB)))
  have HI := (readId_any R W0 l m cls' tag' c' k1 (R.keep W W0 _ hQ (fun i hi => hb0.block i (Nat.lt_of_lt_of_le hi hB))) (Nat.le_trans hB hb0.size) hi hxl)
  rw [← hi1, ← hi2, ← hi3] at HI
  rw [← hi1, ← hi2, ← hi3]
  clear hi1 hi2 hi3
  by_cases hc1 : k1 ≤ l.length
  · have HA : Hid (Calls Tryd.prog 52 #[.iface T r] W0 fun e w' => e = .returned (.tuple #[.agg #[.int .u8 i1, .int .u8 i2, .int .u64 i3], .int .i64 k1, .nilIface]) ∧ Q w' (l.drop k1) ∧ w'.heap[W.heap.size]? = some (.cells #[.int .u8 0, .int .u8 0, .int .u64 0] 69 (0, 0)) ∧ w'.heap[W.heap.size + 1]? = some (.cells #[.int .u8 0, .int .u8 0, .int .u64 0] 69 (0, 0)) ∧ Only (fun b => b = g) W w') := Lib.hid (by
      refine HI.mono ?_
      rintro e w' ⟨h1, _, ho⟩
      obtain ⟨he, hq⟩ := h1 hc1
      exact ⟨he, hq, (ho.block _ (blk_lt hX0) (by omega)).trans hX0, (ho.block _ (blk_lt hY0) (by omega)).trans hY0, (Only.of_below (fun b => b = g) hb0).trans ho (fun i _ h => h)⟩)
    rw [List.drop_append_of_le_length hc1] at hl
    obtain ⟨t1, ht1⟩ : ∃ t1, t1 = (k1 : Int) := ⟨_, rfl⟩
    rw [← ht1] at HA
    have ht0 : 0 ≤ t1 := by omega
    have htb : t1 < 8388608 := by
      have := idB_all hi hx
      simp only at this
      omega
    by_cases hc2 : k1 + k2 ≤ l.length
    · have HL : Hid (∀ W' : World, Q W' (l.drop k1) → W.heap.size ≤ W'.heap.size → W'.heap[W.heap.size]? = some (.cells #[.int .u8 i1, .int .u8 i2, .int .u64 i3] 69 (0, 0)) → W'.heap[W.heap.size + 1]? = some (.cells #[.int .u8 i1, .int .u8 i2, .int .u64 i3] 69 (0, 0)) → Only (fun b => b = g) W W' → Calls Tryd.prog 53 #[.iface T r] W' fun e w' => e = .returned (.tuple #[.int .i64 n', .int .i64 k2, .nilIface]) ∧ Q w' (l.drop (k1 + k2)) ∧
          w'.heap[W.heap.size]? = some (.cells #[.int .u8 i1, .int .u8 i2, .int .u64 i3] 69 (0, 0)) ∧ w'.heap[W.heap.size + 1]? = some (.cells #[.int .u8 i1, .int .u8 i2, .int .u64 i3] 69 (0, 0)) ∧ Only (fun b => b = g) W w') := Lib.hid (fun W' hq hs hX hY ho => by
        refine (readLen_any R W' (l.drop k1) m n' k2 hq (Nat.le_trans hB hs) hl (fun x hx' => hxl x (List.mem_of_mem_drop hx'))).mono ?_
        rintro e w' ⟨h1, _, ho'⟩
        obtain ⟨he, hq'⟩ := h1 (by rw [List.length_drop]; omega)
        rw [List.drop_drop] at hq'
        exact ⟨he, hq', (ho'.block _ (blk_lt hX) (by omega)).trans hX, (ho'.block _ (blk_lt hY) (by omega)).trans hY, ho.trans ho' (fun i _ h => h)⟩)
      obtain ⟨t2, ht2⟩ : ∃ t2, t2 = (k2 : Int) := ⟨_, rfl⟩
      rw [← ht2] at HL
      have ht3 : 0 ≤ t2 := by omega
      have ht4 : t2 ≤ 5 := by omega
      have hn0 : 0 ≤ n' := hn.1
      have hn1 : n' < 4294967296 := hn.2.1
      have d1 : (n' == -1) = false := by simp; omega
      have d2 : decide (n' < -1) = false := decide_eq_false (by omega)
      have HC : Hid (k1 + k2 ≤ l.length) := Lib.hid hc2
      have HT : Hid (t1 + t2 = ((k1 + k2 : Nat) : Int)) := Lib.hid (by push_cast; omega)
      have HW0 := Lib.hid hW0
      clear hQ R hB hb0 hX0 hY0 hW0 HI hi hl hk1 hk2 hn hxl hx hc1 hc2 ht1 ht2
      go_enter Tryd.func36, Tryd.ntmps36
      go_upto_region 3 with fail
      rw [← HW0.out]
      go_wp2_with (first
        | (go_at_call 52
           with_reducible refine HA.out.mono ?_
           rintro e W6 ⟨rfl, hQ6, hX6, hY6, hO6⟩
           have HQW6 := Lib.hid hQ6
           have HXW6 := Lib.hid hX6
           have HYW6 := Lib.hid hY6
           have HOW6 := Lib.hid hO6
           have xW60 : W6.cell? ⟨W.heap.size, 0, none⟩ = some (.int .u8 0) := blk_cell hX6 0
           have xW61 : W6.cell? ⟨W.heap.size, 1, none⟩ = some (.int .u8 0) := blk_cell hX6 1
           have xW62 : W6.cell? ⟨W.heap.size, 2, none⟩ = some (.int .u64 0) := blk_cell hX6 2
           have xW6f0 : W6.frozen? ⟨W.heap.size, 0, none⟩ = false := blk_frozen hX6 0
           have xW6f1 : W6.frozen? ⟨W.heap.size, 1, none⟩ = false := blk_frozen hX6 1
           have xW6f2 : W6.frozen? ⟨W.heap.size, 2, none⟩ = false := blk_frozen hX6 2
           have yW60 : W6.cell? ⟨W.heap.size + 1, 0, none⟩ = some (.int .u8 0) := blk_cell hY6 0
           have yW61 : W6.cell? ⟨W.heap.size + 1, 1, none⟩ = some (.int .u8 0) := blk_cell hY6 1
           have yW62 : W6.cell? ⟨W.heap.size + 1, 2, none⟩ = some (.int .u64 0) := blk_cell hY6 2
           have yW6f0 : W6.frozen? ⟨W.heap.size + 1, 0, none⟩ = false := blk_frozen hY6 0
           have yW6f1 : W6.frozen? ⟨W.heap.size + 1, 1, none⟩ = false := blk_frozen hY6 1
           have yW6f2 : W6.frozen? ⟨W.heap.size + 1, 2, none⟩ = false := blk_frozen hY6 2
           clear hQ6 hX6 hY6 hO6)
        | (go_at_call 53
           with_reducible refine (HL.out _ (HKQ.out W6 _ _ HQW6.out HOW6.out.size (fun i hi => by rw [Below.heap_setCell _ ⟨W.heap.size, 2, none⟩ _ i (by show i ≠ W.heap.size; omega), Below.heap_setCell _ ⟨W.heap.size, 1, none⟩ _ i (by show i ≠ W.heap.size; omega), Below.heap_setCell _ ⟨W.heap.size, 0, none⟩ _ i (by show i ≠ W.heap.size; omega), Below.heap_setCell _ ⟨W.heap.size + 1, 2, none⟩ _ i (by show i ≠ W.heap.size + 1; omega), Below.heap_setCell _ ⟨W.heap.size + 1, 1, none⟩ _ i (by show i ≠ W.heap.size + 1; omega), Below.heap_setCell _ ⟨W.heap.size + 1, 0, none⟩ _ i (by show i ≠ W.heap.size + 1; omega)])) (by simp; exact HOW6.out.size) (blk_set (blk_set (blk_set (blk_far (blk_far (blk_far HXW6.out (p := ⟨W.heap.size + 1, 0, none⟩) (by simp) (.int .u8 i1)) (p := ⟨W.heap.size + 1, 1, none⟩) (by simp) (.int .u8 i2)) (p := ⟨W.heap.size + 1, 2, none⟩) (by simp) (.int .u64 i3)) 0 (.int .u8 i1)) 1 (.int .u8 i2)) 2 (.int .u64 i3)) (blk_far (blk_far (blk_far (blk_set (blk_set (blk_set HYW6.out 0 (.int .u8 i1)) 1 (.int .u8 i2)) 2 (.int .u64 i3)) (p := ⟨W.heap.size, 0, none⟩) (by simp) (.int .u8 i1)) (p := ⟨W.heap.size, 1, none⟩) (by simp) (.int .u8 i2)) (p := ⟨W.heap.size, 2, none⟩) (by simp) (.int .u64 i3)) (((((((HOW6.out).setCell (a := ⟨W.heap.size + 1, 0, none⟩) (fun h => absurd h (by simp)) _).setCell (a := ⟨W.heap.size + 1, 1, none⟩) (fun h => absurd h (by simp)) _).setCell (a := ⟨W.heap.size + 1, 2, none⟩) (fun h => absurd h (by simp)) _).setCell (a := ⟨W.heap.size, 0, none⟩) (fun h => absurd h (by simp)) _).setCell (a := ⟨W.heap.size, 1, none⟩) (fun h => absurd h (by simp)) _).setCell (a := ⟨W.heap.size, 2, none⟩) (fun h => absurd h (by simp)) _)).mono ?_
           rintro e W7 ⟨rfl, hQ6, hX6, hY6, hO6⟩
           have HQW7 := Lib.hid hQ6
           have HXW7 := Lib.hid hX6
           have HYW7 := Lib.hid hY6
           have HOW7 := Lib.hid hO6
           have xW70 : W7.cell? ⟨W.heap.size, 0, none⟩ = some (.int .u8 i1) := blk_cell hX6 0
           have xW71 : W7.cell? ⟨W.heap.size, 1, none⟩ = some (.int .u8 i2) := blk_cell hX6 1
           have xW72 : W7.cell? ⟨W.heap.size, 2, none⟩ = some (.int .u64 i3) := blk_cell hX6 2
           have xW7f0 : W7.frozen? ⟨W.heap.size, 0, none⟩ = false := blk_frozen hX6 0
           have xW7f1 : W7.frozen? ⟨W.heap.size, 1, none⟩ = false := blk_frozen hX6 1
           have xW7f2 : W7.frozen? ⟨W.heap.size, 2, none⟩ = false := blk_frozen hX6 2
           have yW70 : W7.cell? ⟨W.heap.size + 1, 0, none⟩ = some (.int .u8 i1) := blk_cell hY6 0
           have yW71 : W7.cell? ⟨W.heap.size + 1, 1, none⟩ = some (.int .u8 i2) := blk_cell hY6 1
           have yW72 : W7.cell? ⟨W.heap.size + 1, 2, none⟩ = some (.int .u64 i3) := blk_cell hY6 2
           have yW7f0 : W7.frozen? ⟨W.heap.size + 1, 0, none⟩ = false := blk_frozen hY6 0
           have yW7f1 : W7.frozen? ⟨W.heap.size + 1, 1, none⟩ = false := blk_frozen hY6 1
           have yW7f2 : W7.frozen? ⟨W.heap.size + 1, 2, none⟩ = false := blk_frozen hY6 2
           clear hQ6 hX6 hY6 hO6))
      try simp only [Exit.inBlock, Exit.then]
      have hX7 := blk_set (blk_set (blk_set HXW7.out 0 (.int .u8 i1)) 1 (.int .u8 i2)) 2 (.int .u64 i3)
      refine bodyPost_ret (results_cttt (p := 2) (u := 3) (q := 4) (r := 5) rfl _ _ _ _ _ _ _ rfl hX7 Tryd.underlying69 rfl (by kernel_rfl)) rfl ⟨fun _ => ⟨?_, ?_⟩, fun h => absurd h (by have := HC.out; omega), ?_⟩
      · show Ending.returned (.tuple #[.agg #[.int .u8 i1, .int .u8 i2, .int .u64 i3], .int .i64 n', .int .i64 (t1 + t2), .nilIface]) = _
        rw [HT.out]
      · refine HKQ.out W7 _ _ HQW7.out HOW7.out.size (fun i hi => ?_)
        rw [Below.heap_setCell _ ⟨W.heap.size, 2, none⟩ _ i (by show i ≠ W.heap.size; omega), Below.heap_setCell _ ⟨W.heap.size, 1, none⟩ _ i (by show i ≠ W.heap.size; omega), Below.heap_setCell _ ⟨W.heap.size, 0, none⟩ _ i (by show i ≠ W.heap.size; omega)]
      · exact (((HOW7.out).setCell (a := ⟨W.heap.size, 0, none⟩) (fun h => absurd h (by simp)) _).setCell (a := ⟨W.heap.size, 1, none⟩) (fun h => absurd h (by simp)) _).setCell (a := ⟨W.heap.size, 2, none⟩) (fun h => absurd h (by simp)) _
    · have HL : Hid (∀ W' : World, Q W' (l.drop k1) → W.heap.size ≤ W'.heap.size → W'.heap[W.heap.size]? = some (.cells #[.int .u8 i1, .int .u8 i2, .int .u64 i3] 69 (0, 0)) → W'.heap[W.heap.size + 1]? = some (.cells #[.int .u8 i1, .int .u8 i2, .int .u64 i3] 69 (0, 0)) → Only (fun b => b = g) W W' → Calls Tryd.prog 53 #[.iface T r] W' fun e w' => ∃ q, e = .returned (.tuple #[.int .i64 0, .int .i64 q, (.iface 104 (.pointer (some ua)))]) ∧ Q w' [] ∧
          w'.heap[W.heap.size]? = some (.cells #[.int .u8 i1, .int .u8 i2, .int .u64 i3] 69 (0, 0)) ∧ w'.heap[W.heap.size + 1]? = some (.cells #[.int .u8 i1, .int .u8 i2, .int .u64 i3] 69 (0, 0)) ∧ Only (fun b => b = g) W w') := Lib.hid (fun W' hq hs hX hY ho => by
        refine (readLen_any R W' (l.drop k1) m n' k2 hq (Nat.le_trans hB hs) hl (fun x hx' => hxl x (List.mem_of_mem_drop hx'))).mono ?_
        rintro e w' ⟨_, h1, ho'⟩
        obtain ⟨⟨q, he⟩, hq'⟩ := h1 (by rw [List.length_drop]; omega)
        exact ⟨q, he, hq', (ho'.block _ (blk_lt hX) (by omega)).trans hX, (ho'.block _ (blk_lt hY) (by omega)).trans hY, ho.trans ho' (fun i _ h => h)⟩)
      have HC : Hid (l.length < k1 + k2) := Lib.hid (by omega)
      have HW0 := Lib.hid hW0
      clear hQ R hB hb0 hX0 hY0 hW0 HI hi hl hk1 hk2 hn hxl hx hc1 hc2 ht1
      go_enter Tryd.func36, Tryd.ntmps36
      go_upto_region 3 with fail
      rw [← HW0.out]
      go_wp2_with (first
        | (go_at_call 52
           with_reducible refine HA.out.mono ?_
           rintro e W6 ⟨rfl, hQ6, hX6, hY6, hO6⟩
           have HQW6 := Lib.hid hQ6
           have HXW6 := Lib.hid hX6
           have HYW6 := Lib.hid hY6
           have HOW6 := Lib.hid hO6
           have xW60 : W6.cell? ⟨W.heap.size, 0, none⟩ = some (.int .u8 0) := blk_cell hX6 0
           have xW61 : W6.cell? ⟨W.heap.size, 1, none⟩ = some (.int .u8 0) := blk_cell hX6 1
           have xW62 : W6.cell? ⟨W.heap.size, 2, none⟩ = some (.int .u64 0) := blk_cell hX6 2
           have xW6f0 : W6.frozen? ⟨W.heap.size, 0, none⟩ = false := blk_frozen hX6 0
           have xW6f1 : W6.frozen? ⟨W.heap.size, 1, none⟩ = false := blk_frozen hX6 1
           have xW6f2 : W6.frozen? ⟨W.heap.size, 2, none⟩ = false := blk_frozen hX6 2
           have yW60 : W6.cell? ⟨W.heap.size + 1, 0, none⟩ = some (.int .u8 0) := blk_cell hY6 0
           have yW61 : W6.cell? ⟨W.heap.size + 1, 1, none⟩ = some (.int .u8 0) := blk_cell hY6 1
           have yW62 : W6.cell? ⟨W.heap.size + 1, 2, none⟩ = some (.int .u64 0) := blk_cell hY6 2
           have yW6f0 : W6.frozen? ⟨W.heap.size + 1, 0, none⟩ = false := blk_frozen hY6 0
           have yW6f1 : W6.frozen? ⟨W.heap.size + 1, 1, none⟩ = false := blk_frozen hY6 1
           have yW6f2 : W6.frozen? ⟨W.heap.size + 1, 2, none⟩ = false := blk_frozen hY6 2
           clear hQ6 hX6 hY6 hO6)
        | (go_at_call 53
           with_reducible refine (HL.out _ (HKQ.out W6 _ _ HQW6.out HOW6.out.size (fun i hi => by rw [Below.heap_setCell _ ⟨W.heap.size, 2, none⟩ _ i (by show i ≠ W.heap.size; omega), Below.heap_setCell _ ⟨W.heap.size, 1, none⟩ _ i (by show i ≠ W.heap.size; omega), Below.heap_setCell _ ⟨W.heap.size, 0, none⟩ _ i (by show i ≠ W.heap.size; omega), Below.heap_setCell _ ⟨W.heap.size + 1, 2, none⟩ _ i (by show i ≠ W.heap.size + 1; omega), Below.heap_setCell _ ⟨W.heap.size + 1, 1, none⟩ _ i (by show i ≠ W.heap.size + 1; omega), Below.heap_setCell _ ⟨W.heap.size + 1, 0, none⟩ _ i (by show i ≠ W.heap.size + 1; omega)])) (by simp; exact HOW6.out.size) (blk_set (blk_set (blk_set (blk_far (blk_far (blk_far HXW6.out (p := ⟨W.heap.size + 1, 0, none⟩) (by simp) (.int .u8 i1)) (p := ⟨W.heap.size + 1, 1, none⟩) (by simp) (.int .u8 i2)) (p := ⟨W.heap.size + 1, 2, none⟩) (by simp) (.int .u64 i3)) 0 (.int .u8 i1)) 1 (.int .u8 i2)) 2 (.int .u64 i3)) (blk_far (blk_far (blk_far (blk_set (blk_set (blk_set HYW6.out 0 (.int .u8 i1)) 1 (.int .u8 i2)) 2 (.int .u64 i3)) (p := ⟨W.heap.size, 0, none⟩) (by simp) (.int .u8 i1)) (p := ⟨W.heap.size, 1, none⟩) (by simp) (.int .u8 i2)) (p := ⟨W.heap.size, 2, none⟩) (by simp) (.int .u64 i3)) (((((((HOW6.out).setCell (a := ⟨W.heap.size + 1, 0, none⟩) (fun h => absurd h (by simp)) _).setCell (a := ⟨W.heap.size + 1, 1, none⟩) (fun h => absurd h (by simp)) _).setCell (a := ⟨W.heap.size + 1, 2, none⟩) (fun h => absurd h (by simp)) _).setCell (a := ⟨W.heap.size, 0, none⟩) (fun h => absurd h (by simp)) _).setCell (a := ⟨W.heap.size, 1, none⟩) (fun h => absurd h (by simp)) _).setCell (a := ⟨W.heap.size, 2, none⟩) (fun h => absurd h (by simp)) _)).mono ?_
           rintro e W7 ⟨q, rfl, hQ6, hX6, hY6, hO6⟩
           have HQW7 := Lib.hid hQ6
           have HXW7 := Lib.hid hX6
           have HYW7 := Lib.hid hY6
           have HOW7 := Lib.hid hO6
           have xW70 : W7.cell? ⟨W.heap.size, 0, none⟩ = some (.int .u8 i1) := blk_cell hX6 0
           have xW71 : W7.cell? ⟨W.heap.size, 1, none⟩ = some (.int .u8 i2) := blk_cell hX6 1
           have xW72 : W7.cell? ⟨W.heap.size, 2, none⟩ = some (.int .u64 i3) := blk_cell hX6 2
           have xW7f0 : W7.frozen? ⟨W.heap.size, 0, none⟩ = false := blk_frozen hX6 0
           have xW7f1 : W7.frozen? ⟨W.heap.size, 1, none⟩ = false := blk_frozen hX6 1
           have xW7f2 : W7.frozen? ⟨W.heap.size, 2, none⟩ = false := blk_frozen hX6 2
           have yW70 : W7.cell? ⟨W.heap.size + 1, 0, none⟩ = some (.int .u8 i1) := blk_cell hY6 0
           have yW71 : W7.cell? ⟨W.heap.size + 1, 1, none⟩ = some (.int .u8 i2) := blk_cell hY6 1
           have yW72 : W7.cell? ⟨W.heap.size + 1, 2, none⟩ = some (.int .u64 i3) := blk_cell hY6 2
           have yW7f0 : W7.frozen? ⟨W.heap.size + 1, 0, none⟩ = false := blk_frozen hY6 0
           have yW7f1 : W7.frozen? ⟨W.heap.size + 1, 1, none⟩ = false := blk_frozen hY6 1
           have yW7f2 : W7.frozen? ⟨W.heap.size + 1, 2, none⟩ = false := blk_frozen hY6 2
           clear hQ6 hX6 hY6 hO6))
      try simp only [Exit.inBlock, Exit.then]
      have hX7 := blk_set (blk_set (blk_set HXW7.out 0 (.int .u8 0)) 1 (.int .u8 0)) 2 (.int .u64 0)
      refine bodyPost_ret (results_cttt (p := 2) (u := 3) (q := 4) (r := 5) rfl _ _ _ _ _ _ _ rfl hX7 Tryd.underlying69 rfl (by kernel_rfl)) rfl ⟨fun h => absurd h (by have := HC.out; omega), fun _ => ⟨⟨_, ua, rfl, .inr rfl⟩, ?_⟩, ?_⟩
      · refine HKQ.out W7 _ _ HQW7.out HOW7.out.size (fun i hi => ?_)
        rw [Below.heap_setCell _ ⟨W.heap.size, 2, none⟩ _ i (by show i ≠ W.heap.size; omega), Below.heap_setCell _ ⟨W.heap.size, 1, none⟩ _ i (by show i ≠ W.heap.size; omega), Below.heap_setCell _ ⟨W.heap.size, 0, none⟩ _ i (by show i ≠ W.heap.size; omega)]
      · exact (((HOW7.out).setCell (a := ⟨W.heap.size, 0, none⟩) (fun h => absurd h (by simp)) _).setCell (a := ⟨W.heap.size, 1, none⟩) (fun h => absurd h (by simp)) _).setCell (a := ⟨W.heap.size, 2, none⟩) (fun h => absurd h (by simp)) _
  · have HA : Hid (Calls Tryd.prog 52 #[.iface T r] W0 fun e w' => ∃ q v, e = .returned (.tuple #[.agg #[.int .u8 0, .int .u8 0, .int .u64 0], .int .i64 q, (.iface 104 (.pointer (some v)))]) ∧ (v = va ∨ v = ua) ∧ Q w' [] ∧ w'.heap[W.heap.size]? = some (.cells #[.int .u8 0, .int .u8 0, .int .u64 0] 69 (0, 0)) ∧ w'.heap[W.heap.size + 1]? = some (.cells #[.int .u8 0, .int .u8 0, .int .u64 0] 69 (0, 0)) ∧ Only (fun b => b = g) W w') := Lib.hid (by
      refine HI.mono ?_
      rintro e w' ⟨_, h1, ho⟩
      obtain ⟨⟨q, v, he, hv⟩, hq⟩ := h1 (by omega)
      exact ⟨q, v, he, hv, hq, (ho.block _ (blk_lt hX0) (by omega)).trans hX0, (ho.block _ (blk_lt hY0) (by omega)).trans hY0, (Only.of_below (fun b => b = g) hb0).trans ho (fun i _ h => h)⟩)
    have HC : Hid (l.length < k1 + k2) := Lib.hid (by omega)
    have HW0 := Lib.hid hW0
    clear hQ R hB hb0 hX0 hY0 hW0 HI hi hl hk1 hk2 hn hxl hx hc1
    go_enter Tryd.func36, Tryd.ntmps36
    go_upto_region 3 with fail
    rw [← HW0.out]
    go_wp2_with (go_at_call 52
                 with_reducible refine HA.out.mono ?_
                 rintro e W6 ⟨q, v, rfl, hv, hQ6, hX6, hY6, hO6⟩
                 have HQW6 := Lib.hid hQ6
                 have HXW6 := Lib.hid hX6
                 have HYW6 := Lib.hid hY6
                 have HOW6 := Lib.hid hO6
                 have xW60 : W6.cell? ⟨W.heap.size, 0, none⟩ = some (.int .u8 0) := blk_cell hX6 0
                 have xW61 : W6.cell? ⟨W.heap.size, 1, none⟩ = some (.int .u8 0) := blk_cell hX6 1
                 have xW62 : W6.cell? ⟨W.heap.size, 2, none⟩ = some (.int .u64 0) := blk_cell hX6 2
                 have xW6f0 : W6.frozen? ⟨W.heap.size, 0, none⟩ = false := blk_frozen hX6 0
                 have xW6f1 : W6.frozen? ⟨W.heap.size, 1, none⟩ = false := blk_frozen hX6 1
                 have xW6f2 : W6.frozen? ⟨W.heap.size, 2, none⟩ = false := blk_frozen hX6 2
                 have yW60 : W6.cell? ⟨W.heap.size + 1, 0, none⟩ = some (.int .u8 0) := blk_cell hY6 0
                 have yW61 : W6.cell? ⟨W.heap.size + 1, 1, none⟩ = some (.int .u8 0) := blk_cell hY6 1
                 have yW62 : W6.cell? ⟨W.heap.size + 1, 2, none⟩ = some (.int .u64 0) := blk_cell hY6 2
                 have yW6f0 : W6.frozen? ⟨W.heap.size + 1, 0, none⟩ = false := blk_frozen hY6 0
                 have yW6f1 : W6.frozen? ⟨W.heap.size + 1, 1, none⟩ = false := blk_frozen hY6 1
                 have yW6f2 : W6.frozen? ⟨W.heap.size + 1, 2, none⟩ = false := blk_frozen hY6 2
                 have HV := Lib.hid hv; clear hv hQ6 hX6 hY6 hO6)
    try simp only [Exit.inBlock, Exit.then]
    have hX7 := blk_set (blk_set (blk_set (blk_far (blk_far (blk_far HXW6.out (p := ⟨W.heap.size + 1, 0, none⟩) (by simp) (.int .u8 0)) (p := ⟨W.heap.size + 1, 1, none⟩) (by simp) (.int .u8 0)) (p := ⟨W.heap.size + 1, 2, none⟩) (by simp) (.int .u64 0)) 0 (.int .u8 0)) 1 (.int .u8 0)) 2 (.int .u64 0)
    refine bodyPost_ret (results_cttt (p := 2) (u := 3) (q := 4) (r := 5) rfl _ _ _ _ _ _ _ rfl hX7 Tryd.underlying69 rfl (by kernel_rfl)) rfl ⟨fun h => absurd h (by have := HC.out; omega), fun _ => ⟨⟨_, v, rfl, HV.out⟩, ?_⟩, ?_⟩
    · refine HKQ.out W6 _ _ HQW6.out HOW6.out.size (fun i hi => ?_)
      rw [Below.heap_setCell _ ⟨W.heap.size, 2, none⟩ _ i (by show i ≠ W.heap.size; omega), Below.heap_setCell _ ⟨W.heap.size, 1, none⟩ _ i (by show i ≠ W.heap.size; omega), Below.heap_setCell _ ⟨W.heap.size, 0, none⟩ _ i (by show i ≠ W.heap.size; omega), Below.heap_setCell _ ⟨W.heap.size + 1, 2, none⟩ _ i (by show i ≠ W.heap.size + 1; omega), Below.heap_setCell _ ⟨W.heap.size + 1, 1, none⟩ _ i (by show i ≠ W.heap.size + 1; omega), Below.heap_setCell _ ⟨W.heap.size + 1, 0, none⟩ _ i (by show i ≠ W.heap.size + 1; omega)]
    · exact ((((((HOW6.out).setCell (a := ⟨W.heap.size + 1, 0, none⟩) (fun h => absurd h (by simp)) _).setCell (a := ⟨W.heap.size + 1, 1, none⟩) (fun h => absurd h (by simp)) _).setCell (a := ⟨W.heap.size + 1, 2, none⟩) (fun h => absurd h (by simp)) _).setCell (a := ⟨W.heap.size, 0, none⟩) (fun h => absurd h (by simp)) _).setCell (a := ⟨W.heap.size, 1, none⟩) (fun h => absurd h (by simp)) _).setCell (a := ⟨W.heap.size, 2, none⟩) (fun h => absurd h (by simp)) _
end
end Go.Proofs.YtejbpbdlolehnaaDoor.Ber
namespace Go.Proofs.YtejbpbdlolehnaaDoor.Ber
open Go.RowKit Go.Proofs.YtejbpbdlolehnaaDoorW.PrintWords Go.Proofs.YtejbpbdlolehnaaDoorW.PrintLast Go.Proofs.YtejbpbdlolehnaaDoor.Buf Go.Proofs.YtejbpbdlolehnaaDoor.Pk Go.Proofs.YtejbpbdlolehnaaDoor.Tree
set_option linter.unusedVariables false
set_option linter.unusedSimpArgs false
section
variable {T F : Nat} {r : Value} {g B : Nat} {va ua : Addr} {Q : World → List Int → Prop}
/-- a *io.LimitedReader over the reader r lies in block lb: n bytes are left -/
def AtLim (W : World) (lb T : Nat) (r : Value) (n : Int) : Prop := W.heap[lb]? = some (.cells #[.iface T r, .int .i64 n] 110 (0, 0))
set_option maxHeartbeats 3200000 in
set_option maxRecDepth 100000 in
theorem lim_some (R : RdSpec T F r g B va ua Q) (W : World) (l : List Int) (lb pb po m pc N : Nat) (cur : Array Value) (hL : AtLim W lb T r N) (hN : 0 < N) (hQ : Q W l) (hl : l ≠ []) (hp : W.heap[pb]? = some (.cells cur 5 (0, 0))) (hf : po + m ≤ cur.size) (hpc : m ≤ pc) (hm0 : pc ≤ 9223372036854775807) (hN1 : N < 4294967296) (hlb : B ≤ lb) (hpb : B ≤ pb) :
    Calls Tryd.prog 111 #[.pointer (some ⟨lb, 0, none⟩), .slice (some ⟨pb, po, none⟩) m pc] W fun e w' => ∃ k, k = Nat.min l.length (Nat.min m N) ∧ e = .returned (.tuple #[.int .i64 (k : Nat), .nilIface]) ∧ Q w' (l.drop k) ∧ AtLim w' lb T r ((N - k : Nat) : Int) ∧
      w'.heap[pb]? = some (.cells (cur.toList.take po ++ (nums .u8 (l.take k) ++ cur.toList.drop (po + (l.take k).length))).toArray 5 (0, 0)) ∧ Only (fun i => i = g ∨ i = lb ∨ i = pb) W w' := by
  have hne : lb ≠ pb := by
    rintro rfl
    unfold AtLim at hL
    rw [hp] at hL
    injection hL with hL
    injection hL with _ hL
    exact absurd hL (by decide)
  have hglb : lb ≠ g := fun e => by have := R.lt; omega
  have hm := R.hm
  have hn := R.hn
  have hcf := R.hcf
  obtain ⟨k, hk⟩ : ∃ k, k = Nat.min l.length (Nat.min m N) := ⟨_, rfl⟩
  have hkN : k ≤ N := by rw [hk]; exact Nat.le_trans (Nat.min_le_right _ _) (Nat.min_le_right _ _)
  have hkl : k ≤ l.length := by rw [hk]; exact Nat.min_le_left _ _
  have HR : Hid (∀ mm, mm = Nat.min m N → Calls Tryd.prog F #[r, .slice (some ⟨pb, po, none⟩) mm pc] W fun e w' => e = .returned (.tuple #[.int .i64 (k : Nat), .nilIface]) ∧ Q w' (l.drop k) ∧ w'.heap[lb]? = some (.cells #[.iface T r, .int .i64 N] 110 (0, 0)) ∧ w'.heap[pb]? = some (.cells (cur.toList.take po ++ (nums .u8 (l.take k) ++ cur.toList.drop (po + (l.take k).length))).toArray 5 (0, 0)) ∧ Only (fun i => i = g ∨ i = lb ∨ i = pb) W w') := Lib.hid (by
    rintro mm rfl
    have hmm : Nat.min m N ≤ m := Nat.min_le_left _ _
    refine (R.some_ W l pb po (Nat.min m N) pc cur hQ hl hp (by omega) hpb).mono ?_
    rintro e w' ⟨he, hq, ht, ho⟩
    rw [← hk] at he hq ht
    exact ⟨he, hq, (ho.block lb (blk_lt hL) (by rintro (h | h); exact hglb h; exact hne h)).trans hL, ht, ho.mono (fun i _ h => h.elim .inl (fun h => .inr (.inr h)))⟩)
  have HKQ : Hid (∀ W5 W' n, Q W5 n → (∀ i, i < B → W'.heap[i]? = W5.heap[i]?) → Q W' n) := Lib.hid (fun W5 W' n hq h => R.keep W5 W' n hq h)
  have c0 : W.cell? ⟨lb, 0, none⟩ = some (.iface T r) := blk_cell hL 0
  have c1 : W.cell? ⟨lb, 1, none⟩ = some (.int .i64 N) := blk_cell hL 1
  obtain ⟨nn, hnn⟩ : ∃ nn : Int, nn = (N : Int) := ⟨_, rfl⟩
  rw [← hnn] at c1 HR
  have d0 : decide (nn ≤ 0) = false := decide_eq_false (by omega)
  have HB : Hid (B ≤ lb ∧ lb ≠ pb ∧ k ≤ N) := Lib.hid ⟨hlb, hne, hkN⟩
  have hN0 : (0 : Int) ≤ nn := by omega
  have hN2 : nn < 4294967296 := by omega
  have hmN : (m : Int) ≤ 9223372036854775807 := by omega
  have hkc : (k : Int) ≤ nn := by omega
  have hk0 : (0 : Int) ≤ (k : Int) := by omega
  have HN : Hid (nn = (N : Int)) := Lib.hid hnn
  have HK := Lib.hid hk
  clear hQ R hl hp hf hlb hpb hk hkl hL hne hglb hkN
  by_cases hc : N < m
  · have d1 : decide (nn < (m : Int)) = true := decide_eq_true (by omega)
    have hnt : nn.toNat = N := by omega
    have hNpc : nn ≤ (pc : Int) := by omega
    have HRX := Lib.hid (HR.out N (Nat.min_eq_right (Nat.le_of_lt hc)).symm)
    clear HR hc hN hN1 hnn hpc hm0
    go_enter Tryd.func111, Tryd.ntmps111
    go_wp2_with fail
    with_reducible refine HRX.out.mono ?_
    rintro e W6 ⟨rfl, hQ6, hL6, hp6, hO6⟩
    have HQ6 := Lib.hid hQ6
    have HL6 := Lib.hid hL6
    have HP6 := Lib.hid hp6
    have HO6 := Lib.hid hO6
    have q1 : W6.cell? ⟨lb, 1, none⟩ = some (.int .i64 nn) := blk_cell hL6 1
    have qf : W6.frozen? ⟨lb, 1, none⟩ = false := blk_frozen hL6 1
    clear hQ6 hL6 hp6 hO6
    go_wp2
    go_ret2
    have e : nn - (k : Int) = ((N - k : Nat) : Int) := by have h1 := HN.out; have h2 := HB.out.2.2; omega
    refine ⟨k, HK.out, rfl, HKQ.out W6 _ _ HQ6.out (fun i hi => Below.heap_setCell W6 ⟨lb, 1, none⟩ _ i (by have := HB.out.1; show i ≠ lb; omega)), ?_, (Below.heap_setCell W6 ⟨lb, 1, none⟩ _ pb (fun e => HB.out.2.1 e.symm)).trans HP6.out, HO6.out.setCell (a := ⟨lb, 1, none⟩) (fun _ => .inr (.inl rfl)) _⟩
    rw [← e]
    exact blk_set HL6.out 1 (.int .i64 (nn - (k : Int)))
  · have d1 : decide (nn < (m : Int)) = false := decide_eq_false (by omega)
    have HRX := Lib.hid (HR.out m (Nat.min_eq_left (Nat.le_of_not_lt hc)).symm)
    clear HR hc hN hN1 hnn hpc hm0
    go_enter Tryd.func111, Tryd.ntmps111
    go_wp2_with fail
    with_reducible refine HRX.out.mono ?_
    rintro e W6 ⟨rfl, hQ6, hL6, hp6, hO6⟩
    have HQ6 := Lib.hid hQ6
    have HL6 := Lib.hid hL6
    have HP6 := Lib.hid hp6
    have HO6 := Lib.hid hO6
    have q1 : W6.cell? ⟨lb, 1, none⟩ = some (.int .i64 nn) := blk_cell hL6 1
    have qf : W6.frozen? ⟨lb, 1, none⟩ = false := blk_frozen hL6 1
    clear hQ6 hL6 hp6 hO6
    go_wp2
    go_ret2
    have e : nn - (k : Int) = ((N - k : Nat) : Int) := by have h1 := HN.out; have h2 := HB.out.2.2; omega
    refine ⟨k, HK.out, rfl, HKQ.out W6 _ _ HQ6.out (fun i hi => Below.heap_setCell W6 ⟨lb, 1, none⟩ _ i (by have := HB.out.1; show i ≠ lb; omega)), ?_, (Below.heap_setCell W6 ⟨lb, 1, none⟩ _ pb (fun e => HB.out.2.1 e.symm)).trans HP6.out, HO6.out.setCell (a := ⟨lb, 1, none⟩) (fun _ => .inr (.inl rfl)) _⟩
    rw [← e]
    exact blk_set HL6.out 1 (.int .i64 (nn - (k : Int)))
set_option maxHeartbeats 3200000 in
set_option maxRecDepth 100000 in
theorem lim_zero (W : World) (lb : Nat) (A : Option Addr) (m pc : Nat) (hL : AtLim W lb T r 0) (v : Value) (he : W.cell? ⟨0, 0, none⟩ = some v) :
    Calls Tryd.prog 111 #[.pointer (some ⟨lb, 0, none⟩), .slice A m pc] W fun e w' => e = .returned (.tuple #[.int .i64 0, v]) ∧ w' = W.drew := by
  have c0 : W.cell? ⟨lb, 0, none⟩ = some (.iface T r) := blk_cell hL 0
  have c1 : W.cell? ⟨lb, 1, none⟩ = some (.int .i64 0) := blk_cell hL 1
  have he' : W.drew.cell? ⟨0, 0, none⟩ = some v := he
  clear hL
  go_enter Tryd.func111, Tryd.ntmps111
  go_wp2_with fail
  go_region
  go_wp2
  go_ret2
  exact ⟨rfl, rfl⟩
set_option maxHeartbeats 3200000 in
set_option maxRecDepth 100000 in
theorem lim_none (R : RdSpec T F r g B va ua Q) (W : World) (lb N : Nat) (A : Option Addr) (pb po m pc : Nat) (hA : A = some ⟨pb, po, none⟩) (hL : AtLim W lb T r N) (hN : 0 < N) (hQ : Q W []) (hpc : m ≤ pc) (hm0 : pc ≤ 9223372036854775807) (hm1 : 0 < m) (hN1 : N < 4294967296) (hlb : B ≤ lb) :
    Calls Tryd.prog 111 #[.pointer (some ⟨lb, 0, none⟩), .slice A m pc] W fun e w' => e = .returned (.tuple #[.int .i64 0, (.iface 104 (.pointer (some va)))]) ∧ Q w' [] ∧ AtLim w' lb T r N ∧ Only (fun i => i = g ∨ i = lb) W w' := by
  subst hA
  have hglb : lb ≠ g := fun e => by have := R.lt; omega
  have hm := R.hm
  have hn := R.hn
  have hcf := R.hcf
  have HR : Hid (∀ mm, 0 < mm → Calls Tryd.prog F #[r, .slice (some ⟨pb, po, none⟩) mm pc] W fun e w' => e = .returned (.tuple #[.int .i64 0, (.iface 104 (.pointer (some va)))]) ∧ Q w' [] ∧ w'.heap[lb]? = some (.cells #[.iface T r, .int .i64 N] 110 (0, 0)) ∧ Only (fun i => i = g ∨ i = lb) W w') := Lib.hid (by
    intro mm hmm
    refine (R.none_ W (some ⟨pb, po, none⟩) mm pc hQ hmm).mono ?_
    rintro e w' ⟨he, hq, ho⟩
    exact ⟨he, hq, (ho.block lb (blk_lt hL) hglb).trans hL, ho.mono (fun i _ h => .inl h)⟩)
  have HKQ : Hid (∀ W5 W' n, Q W5 n → (∀ i, i < B → W'.heap[i]? = W5.heap[i]?) → Q W' n) := Lib.hid (fun W5 W' n hq h => R.keep W5 W' n hq h)
  have c0 : W.cell? ⟨lb, 0, none⟩ = some (.iface T r) := blk_cell hL 0
  have c1 : W.cell? ⟨lb, 1, none⟩ = some (.int .i64 N) := blk_cell hL 1
  obtain ⟨nn, hnn⟩ : ∃ nn : Int, nn = (N : Int) := ⟨_, rfl⟩
  rw [← hnn] at c1 HR
  have d0 : decide (nn ≤ 0) = false := decide_eq_false (by omega)
  have HB := Lib.hid hlb
  have hN0 : (0 : Int) ≤ nn := by omega
  have hN2 : nn < 4294967296 := by omega
  have hmN : (m : Int) ≤ 9223372036854775807 := by omega
  have HN : Hid (nn = (N : Int)) := Lib.hid hnn
  clear hQ R hL hglb hlb
  by_cases hc : N < m
  · have d1 : decide (nn < (m : Int)) = true := decide_eq_true (by omega)
    have hnt : nn.toNat = N := by omega
    have hNpc : nn ≤ (pc : Int) := by omega
    have HRX := Lib.hid (HR.out N hN)
    clear HR hc hN hN1 hnn hpc hm0 hm1
    go_enter Tryd.func111, Tryd.ntmps111
    go_wp2_with fail
    with_reducible refine HRX.out.mono ?_
    rintro e W6 ⟨rfl, hQ6, hL6, hO6⟩
    have HQ6 := Lib.hid hQ6
    have HL6 := Lib.hid hL6
    have HO6 := Lib.hid hO6
    have q1 : W6.cell? ⟨lb, 1, none⟩ = some (.int .i64 nn) := blk_cell hL6 1
    have qf : W6.frozen? ⟨lb, 1, none⟩ = false := blk_frozen hL6 1
    clear hQ6 hL6 hO6
    go_wp2
    go_ret2
    refine ⟨rfl, HKQ.out W6 _ _ HQ6.out (fun i hi => Below.heap_setCell W6 ⟨lb, 1, none⟩ _ i (by have := HB.out; show i ≠ lb; omega)), ?_, HO6.out.setCell (a := ⟨lb, 1, none⟩) (fun _ => .inr rfl) _⟩
    rw [← HN.out]
    exact blk_set HL6.out 1 (.int .i64 nn)
  · have d1 : decide (nn < (m : Int)) = false := decide_eq_false (by omega)
    have HRX := Lib.hid (HR.out m hm1)
    clear HR hc hN hN1 hnn hpc hm0 hm1
    go_enter Tryd.func111, Tryd.ntmps111
    go_wp2_with fail
    with_reducible refine HRX.out.mono ?_
    rintro e W6 ⟨rfl, hQ6, hL6, hO6⟩
    have HQ6 := Lib.hid hQ6
    have HL6 := Lib.hid hL6
    have HO6 := Lib.hid hO6
    have q1 : W6.cell? ⟨lb, 1, none⟩ = some (.int .i64 nn) := blk_cell hL6 1
    have qf : W6.frozen? ⟨lb, 1, none⟩ = false := blk_frozen hL6 1
    clear hQ6 hL6 hO6
    go_wp2
    go_ret2
    refine ⟨rfl, HKQ.out W6 _ _ HQ6.out (fun i hi => Below.heap_setCell W6 ⟨lb, 1, none⟩ _ i (by have := HB.out; show i ≠ lb; omega)), ?_, HO6.out.setCell (a := ⟨lb, 1, none⟩) (fun _ => .inr rfl) _⟩
    rw [← HN.out]
    exact blk_set HL6.out 1 (.int .i64 nn)
end
end Go.Proofs.YtejbpbdlolehnaaDoor.Ber
