/- ber.encodeIdentifier and the reference's Identifier: the same bytes, the tag's groups of seven bits with the highest first. -/
import Derived.Test.YtbmcpjkhnhbjdaaDoorBufWrite
import Derived.Test.YtbmcpjkhnhbjdaaDoorTree
import Derived.Test.YtbmcpjkhnhbjdaaDoorLen
import Derived.BigRegion
namespace Go.Proofs.YtbmcpjkhnhbjdaaDoor.Ident
open Go.RowKit Go.Proofs.YtbmcpjkhnhbjdaaDoorW.PrintWords Go.Proofs.YtbmcpjkhnhbjdaaDoor.Num
set_option linter.unusedVariables false
set_option linter.unusedSimpArgs false

/-- the groups of seven bits, the lowest first: all but that bear the bit of continuation -/
def dig (t : Int) : Nat → Int
  | 0 => t % 128
  | i + 1 => t / 128 ^ (i + 1) % 128 + 128
def low (t : Int) (n : Nat) : List Int := (List.range n).map (dig t)
theorem low_length (t : Int) (n : Nat) : (low t n).length = n := by simp [low]
theorem low_snoc (t : Int) (n : Nat) : low t (n + 1) = low t n ++ [dig t n] := by simp [low, List.range_succ]
/-- how many groups -/
def ng (x : Nat) : Nat := if _h : x = 0 then 0 else ng (x / 128) + 1
decreasing_by omega
theorem ng_zero : ng 0 = 0 := by rw [ng, dif_pos rfl]
theorem ng_pos {x : Nat} (h : x ≠ 0) : ng x = ng (x / 128) + 1 := by rw [ng, dif_neg h]
theorem ng_le : ∀ (k x : Nat), x < 128 ^ k → ng x ≤ k := by
  intro k
  induction k with
  | zero => intro x h; have : x = 0 := by simpa using h
            rw [this, ng_zero]; exact Nat.le_refl _
  | succ k ih =>
    intro x h
    by_cases h0 : x = 0
    · rw [h0, ng_zero]; omega
    · rw [ng_pos h0]
      have := ih (x / 128) (by rw [Nat.pow_succ] at h; omega)
      omega

theorem and127 : ∀ n : Fin 128, Go.bits .and .u64 ((n : Nat) : Int) 127 = ((n : Nat) : Int) := by decide +kernel
theorem or128' : ∀ n : Fin 128, Go.bits .or .u64 ((n : Nat) : Int) 128 = ((n : Nat) : Int) + 128 := by decide +kernel
theorem and_low (x : Nat) (hx : x < 18446744073709551616) : Go.bits .and .u64 (x : Int) 127 = ((x % 128 : Nat) : Int) := by
  show IntKind.u64.wrap ((BitVec.ofInt 64 (x : Int) &&& BitVec.ofInt 64 127).toNat : Int) = _
  rw [BitVec.toNat_and, BitVec.toNat_ofInt, BitVec.toNat_ofInt]
  have e0 : ((2 ^ 64 : Nat) : Int) = 18446744073709551616 := by decide
  rw [e0]
  have e1 : ((x : Int) % 18446744073709551616).toNat = x := by omega
  have e2 : ((127 : Int) % 18446744073709551616).toNat = 2 ^ 7 - 1 := by decide
  rw [e1, e2, Nat.and_two_pow_sub_one_eq_mod]
  show IntKind.u64.wrap _ = _
  rw [IntKind.wrap_u64]
  omega

def natT : Value → Nat
  | .int _ n => n.toNat
  | _ => 0
/-- a row after so many swaps of its ends -/
def sw (L : List Int) : Nat → List Int
  | 0 => L
  | i + 1 => ((sw L i).set i (rd (sw L i) ((L.length : Int) - 1 - i))).set (L.length - 1 - i) (rd (sw L i) (i : Int))
theorem sw_length (L : List Int) (i : Nat) : (sw L i).length = L.length := by
  induction i with
  | zero => rfl
  | succ i ih => rw [sw, List.length_set, List.length_set, ih]
theorem sw_all (L : List Int) (h1 : 1 ≤ L.length) (h4 : L.length ≤ 4) : sw L (L.length / 2) = L.reverse := by
  match L, h1, h4 with
  | [a], _, _ => simp [sw]
  | [a, b], _, _ => simp [sw, rd]
  | [a, b, c], _, _ => simp [sw, rd]
  | [a, b, c, d], _, _ => simp [sw, rd]
theorem info8 : (Tryd.prog.info? 5).map (fun i => (i.zero, i.size, i.bytes)) = some (some (.int .u8 0), 1, 1) := by kernel_rfl

theorem round_end {t j x : Nat} {w w1 : World} {v1 : Value} {y : Int} (hx : x = t / 128 ^ j) (hn : ng x + j = ng t) (hz : x ≠ 0) (hown : w1.ownsRow w.heap.size 5 1 v1 (low t j ++ [y]).length (nums .u8 (low t j ++ [y]))) (hB : Below w.heap.size w w1) (hy : y = dig t j) :
    (∃ j, Value.int .u64 ((x : Int) / 128) = Value.int .u64 ((t / 128 ^ j : Nat) : Int) ∧ Hid (ng (t / 128 ^ j) + j = ng t) ∧ Hid (w1.ownsRow w.heap.size 5 1 v1 (low t j).length (nums .u8 (low t j))) ∧ Hid (Below w.heap.size w w1)) ∧
      ng (natT (Value.int .u64 ((x : Int) / 128))) < ng (natT (Value.int .u64 (x : Int))) := by
  have e : t / 128 ^ (j + 1) = x / 128 := by rw [hx, Nat.pow_succ, Nat.div_div_eq_div_mul]
  have h1 := ng_pos hz
  refine ⟨⟨j + 1, by rw [e]; push_cast; rfl, Lib.hid (by rw [e]; omega), Lib.hid (by rw [low_snoc, ← hy]; exact hown), Lib.hid hB⟩, ?_⟩
  show ng ((x : Int) / 128).toNat < ng (x : Int).toNat
  rw [Int.toNat_natCast, show ((x : Int) / 128).toNat = x / 128 by omega]
  omega

theorem swap_end {w wr W5 : World} {gb j i c : Nat} {L : List Int} (hL : L.length = j) (hi : i < j / 2) (HO : wr.ownsRow w.heap.size 5 1 (.slice (some ⟨gb, 0, none⟩) j c) j (nums .u8 (sw L i))) (HB : Below w.heap.size w wr)
    (hW : W5 = ((wr.setCell ⟨gb, i, none⟩ (.int .u8 (rd (sw L i) ((j : Int) - 1 - i)))).setCell ⟨gb, j - 1 - i, none⟩ (.int .u8 (rd (sw L i) (i : Int)))).drew) :
    W5.ownsRow w.heap.size 5 1 (.slice (some ⟨gb, 0, none⟩) j c) j (nums .u8 (sw L (i + 1))) ∧ Below w.heap.size w W5 := by
  have hgb : w.heap.size ≤ gb := by
    rcases HO.2 with ⟨hv, _⟩ | ⟨g', _, _, hv, hg, _⟩
    · cases hv
    · injection hv with hv; injection hv with hv; injection hv with hv; omega
  have h1 := (own_store HO (i : Int) (rd (sw L i) ((j : Int) - 1 - i))).1
  rw [Int.toNat_natCast] at h1
  have h2 := (own_store h1 ((j - 1 - i : Nat) : Int) (rd (sw L i) (i : Int))).1
  rw [Int.toNat_natCast] at h2
  rw [hW]
  refine ⟨?_, ((HB.setCell (p := ⟨gb, i, none⟩) hgb _).setCell (p := ⟨gb, j - 1 - i, none⟩) hgb _).drew⟩
  rw [sw, hL]
  exact h2.drew

set_option maxHeartbeats 6400000 in
set_option maxRecDepth 100000 in
theorem high_any (t : Nat) (ht : t < 268435456) (h0 : 0 < t) (w : World) :
    Calls Tryd.prog 118 #[.int .u64 t] w fun e w' => ∃ v, e = .returned v ∧ w'.ownsRow w.heap.size 5 1 v (ng t) (nums .u8 (low t (ng t)).reverse) ∧ Below w.heap.size w w' := by
  obtain ⟨i0, hi, hz0, hz1, hz2⟩ := info_parts info8
  obtain ⟨M, hM⟩ : ∃ M, M = madeCells (Value.int .u8 0).cells ((4 : Int).toNat * i0.size) := ⟨_, rfl⟩
  have hMs : M.size = 4 := by rw [hM, size_madeCells, hz1]; rfl
  have hmk : ∀ W : World, (Instr.makeSlice 24 (.int .i64 0) (.int .i64 4)).run Tryd.prog W = .ok (.slice (some ⟨W.heap.size, 0, none⟩) 0 4) (W.alloc (.cells M 5)) := fun W => by
    have h := run_makeSlice (P := Tryd.prog) W 24 5 i0 (.int .u8 0) Tryd.underlying24 hi hz0 .i64 .i64 0 4 (by omega) (by omega) (by rw [hz1]; decide) (by rw [hz2]; decide) (by decide)
    rw [← hM] at h
    simpa using h
  have hM2 := Lib.hid hMs
  clear hM hi hz0 hz1 hz2
  go_enter Tryd.func118, Tryd.ntmps118
  go_wp2
  have hst : (w.alloc (.cells M 5)).ownsRow w.heap.size 5 1 (.slice (some ⟨w.heap.size, 0, none⟩) 0 4) 0 (nums .u8 (low t 0)) := by
    refine ⟨by simp [low, nums], .inr ⟨w.heap.size, 4, M, rfl, Nat.le_refl _, blk_new _ _, ?_⟩⟩
    simp [hMs, low, nums, maxLen]
  have HST := Lib.hid hst
  clear hst
  go_loopw [0, 3] (fun tv bv wr => ∃ j : Nat, tv = .int .u64 ((t / 128 ^ j : Nat) : Int) ∧ Hid (ng (t / 128 ^ j) + j = ng t) ∧ Hid (wr.ownsRow w.heap.size 5 1 bv (low t j).length (nums .u8 (low t j))) ∧ Hid (Below w.heap.size w wr)) (fun tv _ _ => ng (natT tv))
  case atStart => exact ⟨0, by simp, Lib.hid (by simp), HST, Lib.hid (below_alloc (Below.refl _ _) _)⟩
  case round =>
    obtain ⟨j, rfl, HN, HO, HB⟩ := hrel
    obtain ⟨A, c, rfl⟩ := own_slice HO.out
    have hlen := low_length t j
    obtain ⟨x, hx⟩ : ∃ x, x = t / 128 ^ j := ⟨_, rfl⟩
    rw [← hx] at HN ⊢
    have hxt : x ≤ t := by rw [hx]; exact Nat.div_le_self _ _
    have HX := Lib.hid hx
    clear hx
    by_cases hz : x = 0
    · subst hz
      have hjn : j = ng t := by have := HN.out; rw [ng_zero] at this; omega
      have hj1 : 1 ≤ j := by
        rw [hjn, ng_pos (by omega)]
        omega
      have hj4 : j ≤ 4 := by have := ng_le 4 t (by omega); omega
      obtain ⟨gb, rfl⟩ : ∃ gb, A = some ⟨gb, 0, none⟩ := by
        rcases HO.out.2 with ⟨hv, hl⟩ | ⟨gb, _, _, hv, _⟩
        · injection hv with _ hv
          omega
        · injection hv with hv
          exact ⟨gb, hv⟩
      have HJ := Lib.hid hjn
      clear hjn
      rw [hlen] at HO
      have HL := Lib.hid hlen
      have hw1 : wrap64 ((j : Int) - 1) = (j : Int) - 1 := by unfold wrap64; omega
      rw [hlen]
      clear hlen
      go_wp2
      go_loopw [5] (fun iv wr2 => ∃ i : Nat, iv = .int .i64 i ∧ i ≤ j / 2 ∧ Hid (wr2.ownsRow w.heap.size 5 1 (.slice (some ⟨gb, 0, none⟩) j c) j (nums .u8 (sw (low t j) i))) ∧ Hid (Below w.heap.size w wr2)) (fun iv _ => j / 2 - (intOf iv).toNat)
      case atStart => exact ⟨0, rfl, Nat.zero_le _, HO, HB⟩
      case round =>
        obtain ⟨i, rfl, hi, HO2, HB2⟩ := hrel
        by_cases hlt : i < j / 2
        · have hb1 : (0 : Int) ≤ (j : Int) - 1 - i := by omega
          have hb2 : (j : Int) - 1 - i < j := by omega
          have hb3 : (i : Int) < j := by omega
          obtain ⟨hc1, hf1⟩ := own_at HO2.out ((j : Int) - 1 - i) hb1 hb2
          have hn1 : ((j : Int) - 1 - i).toNat = j - 1 - i := by omega
          rw [hn1] at hc1 hf1
          obtain ⟨hc2, hf2⟩ := own_at HO2.out (i : Int) (by omega) hb3
          rw [Int.toNat_natCast] at hc2 hf2
          have hw2 : wrap64 ((j : Int) - 1 - i) = (j : Int) - 1 - i := by unfold wrap64; omega
          go_wp2
          go_region
          generalize hW5 : World.drew _ = W5
          obtain ⟨h1, h2⟩ := swap_end HL.out hlt HO2.out HB2.out hW5.symm
          have H1 := Lib.hid h1
          have H2 := Lib.hid h2
          clear h1 h2 hW5
          have hw3 : wrap64 ((i : Int) + 1) = ((i + 1 : Nat) : Int) := by unfold wrap64; omega
          go_wp2
          exact ⟨⟨i + 1, rfl, by omega, H1, H2⟩, by simp only [intOf, Int.toNat_natCast]; omega⟩
        · obtain rfl : i = j / 2 := by omega
          go_wp2
          go_ret
          refine ⟨_, rfl, ?_, HB2.out⟩
          have := HO2.out
          rw [← HJ.out, ← sw_all _ (by rw [HL.out]; exact hj1) (by rw [HL.out]; exact hj4), HL.out]
          exact this
    · have hj4 : j ≤ 4 := by have := ng_le 4 t (by omega); have := HN.out; omega
      have e1 : Go.bits .and .u64 (x : Int) 127 = (x : Int) % 128 := by
        rw [and_low x (by omega)]
        push_cast
        rfl
      have e2 : Go.bits .or .u64 ((x : Int) % 128) 128 = (x : Int) % 128 + 128 := by
        have := or128' ⟨x % 128, Nat.mod_lt _ (by omega)⟩
        simpa using this
      have e3 : ((x : Int) % 128) % 256 = (x : Int) % 128 := by omega
      have e4 : ((x : Int) % 128 + 128) % 256 = (x : Int) % 128 + 128 := by omega
      by_cases hj : j = 0
      · subst hj
        go_wp2_with (at_builtin; refine print_append_num (w0 := w) w.heap.size rfl (.tmp 19) (.tmp 22) 24 5 .u8 1 rfl Tryd.underlying24 info8 (by decide) _ (low t 0) _ rfl rfl HO.out HB.out HB.out.size (by rw [low_length]; omega) ?_; intro v1 w1 hown hB hg hat)
        exact round_end HX.out HN.out hz hown hB (by have h := HX.out; simp only [Nat.pow_zero, Nat.div_one] at h; rw [dig, h])
      · go_wp2_with (at_builtin; refine print_append_num (w0 := w) w.heap.size rfl (.tmp 19) (.tmp 22) 24 5 .u8 1 rfl Tryd.underlying24 info8 (by decide) _ (low t j) _ rfl rfl HO.out HB.out HB.out.size (by rw [low_length]; omega) ?_; intro v1 w1 hown hB hg hat)
        exact round_end HX.out HN.out hz hown hB (by
          obtain ⟨i, rfl⟩ : ∃ i, j = i + 1 := ⟨j - 1, by omega⟩
          have h : ((x : Nat) : Int) = (t : Int) / 128 ^ (i + 1) := by rw [HX.out]; push_cast; rfl
          rw [dig, ← h])
end Go.Proofs.YtbmcpjkhnhbjdaaDoor.Ident

namespace Go.Proofs.YtbmcpjkhnhbjdaaDoor.Ident
open Go.RowKit Go.Proofs.YtbmcpjkhnhbjdaaDoorW.PrintWords Go.Proofs.YtbmcpjkhnhbjdaaDoor.Num Go.Proofs.YtbmcpjkhnhbjdaaDoor.PFnEncode
set_option linter.unusedVariables false
set_option linter.unusedSimpArgs false

/-- the first byte without the tag -/
def cb (cls : Int) (c : Bool) : Int := cls * 64 + (if c then 32 else 0)
/-- the bytes of an identifier -/
def identT (cls tag : Int) (c : Bool) : List Int :=
  if tag < 31 then [cb cls c + tag] else (cb cls c + 31) :: (low tag (ng tag.toNat)).reverse

theorem or_a : ∀ n : Fin 256, Go.bits .or .u8 0 ((n : Nat) : Int) = ((n : Nat) : Int) := by decide +kernel
theorem or_b : ∀ n : Fin 4, Go.bits .or .u8 (((n : Nat) : Int) * 64) 32 = ((n : Nat) : Int) * 64 + 32 := by decide +kernel
theorem or_c : ∀ n : Fin 4, Go.bits .or .u8 (((n : Nat) : Int) * 64) 0 = ((n : Nat) : Int) * 64 := by decide +kernel
theorem or_d : ∀ (n : Fin 8) (t : Fin 32), Go.bits .or .u8 (((n : Nat) : Int) * 32) ((t : Nat) : Int) = ((n : Nat) : Int) * 32 + ((t : Nat) : Int) := by decide +kernel
theorem or_e : ∀ n : Fin 128, Go.bits .or .u8 128 ((n : Nat) : Int) = ((n : Nat) : Int) + 128 := by decide +kernel

theorem or_cb (cls : Int) (c : Bool) (t : Int) (h0 : 0 ≤ cls) (h1 : cls ≤ 3) (t0 : 0 ≤ t) (t1 : t < 32) : Go.bits .or .u8 (cb cls c) t = cb cls c + t := by
  have := or_d ⟨(cls * 2 + (if c then 1 else 0)).toNat, by split <;> omega⟩ ⟨t.toNat, by omega⟩
  simp only [Int.toNat_of_nonneg t0] at this
  have e : (((cls * 2 + (if c then 1 else 0)).toNat : Nat) : Int) * 32 = cb cls c := by
    unfold cb
    split <;> omega
  rwa [e] at this

theorem identT_le' (a b : Int) (c : Bool) (h0 : 0 ≤ b) (h : b < 268435456) : (identT a b c).length ≤ 5 := by
  unfold identT
  split
  · simp
  · have := ng_le 4 b.toNat (by omega)
    simp [low_length]
    exact this
end Go.Proofs.YtbmcpjkhnhbjdaaDoor.Ident

namespace Go.Proofs.YtbmcpjkhnhbjdaaDoor.Ident
open Go.RowKit Go.Proofs.YtbmcpjkhnhbjdaaDoorW.PrintWords Go.Proofs.YtbmcpjkhnhbjdaaDoor.Num
set_option linter.unusedVariables false
set_option linter.unusedSimpArgs false

/-- the state between the regions: the argument's box and the row of one byte -/
structure St (w W : World) (cv tv gv : Value) (a : Int) : Prop where
  box : W.heap[w.heap.size]? = some (.cells #[cv, tv, gv] 152 (0, 0))
  row : W.ownsRow w.heap.size 5 1 (.slice (some ⟨w.heap.size + 1, 0, none⟩) 1 1) 1 (nums .u8 [a])
  below : Below w.heap.size w W

theorem st_first (w : World) (cv tv gv : Value) : St w ((w.alloc (.cells #[cv, tv, gv] 152)).alloc (.cells #[.int .u8 0] 5)) cv tv gv 0 := by
  refine ⟨?_, ⟨by simp [nums], .inr ⟨w.heap.size + 1, 1, #[.int .u8 0], rfl, by omega, ?_, by simp [nums], by unfold maxLen; omega, rfl, rfl⟩⟩, below_alloc (below_alloc (Below.refl _ _) _) _⟩
  · exact blk_alloc (blk_new _ _) _
  · have := blk_new (w.alloc (.cells #[cv, tv, gv] 152)) (.cells #[.int .u8 0] 5)
    simpa using this

theorem St.at {w W : World} {cv tv gv : Value} {a : Int} (h : St w W cv tv gv a) : W.cell? ⟨w.heap.size + 1, 0, none⟩ = some (.int .u8 a) ∧ W.frozen? ⟨w.heap.size + 1, 0, none⟩ = false := by
  have := own_at h.row (0 : Int) (by omega) (by omega)
  simpa [rd] using this

theorem St.step {w W W' : World} {cv tv gv : Value} {a b : Int} (h : St w W cv tv gv a) (hW : W' = W.setCell ⟨w.heap.size + 1, 0, none⟩ (.int .u8 b) ∨ W' = (W.setCell ⟨w.heap.size + 1, 0, none⟩ (.int .u8 b)).drew) : St w W' cv tv gv b := by
  have h1 := (own_store h.row (0 : Int) b).1
  have h2 : (W.setCell ⟨w.heap.size + 1, 0, none⟩ (.int .u8 b)).heap[w.heap.size]? = some (.cells #[cv, tv, gv] 152 (0, 0)) := (Below.heap_setCell W ⟨w.heap.size + 1, 0, none⟩ _ _ (by show w.heap.size ≠ w.heap.size + 1; omega)).trans h.box
  have h3 := h.below.setCell (p := ⟨w.heap.size + 1, 0, none⟩) (Nat.le_succ _) (.int .u8 b)
  rcases hW with rfl | rfl
  · exact ⟨h2, h1, h3⟩
  · exact ⟨h2, h1.drew, h3.drew⟩

set_option maxHeartbeats 6400000 in
set_option maxRecDepth 100000 in
theorem ident_any (cls tag : Int) (c : Bool) (h0 : 0 ≤ cls) (h1 : cls ≤ 3) (t0 : 0 ≤ tag) (t1 : tag < 268435456) (w : World) :
    Calls Tryd.prog 114 #[.agg #[.int .u8 (cls * 64), .int .u8 (if c then 32 else 0), .int .u64 tag]] w fun e w' => ∃ v, e = .returned v ∧ w'.ownsRow w.heap.size 5 1 v (identT cls tag c).length (nums .u8 (identT cls tag c)) ∧ Below w.heap.size w w' := by
  obtain ⟨T, hT⟩ : ∃ T : Int, T = if c then 32 else 0 := ⟨_, rfl⟩
  obtain ⟨C, hC⟩ : ∃ C : Int, C = cls * 64 := ⟨_, rfl⟩
  have b1 : Go.bits .or .u8 0 C = C := by
    have e := or_a ⟨(cls * 64).toNat, by omega⟩
    simp only [Int.toNat_of_nonneg (show 0 ≤ cls * 64 by omega)] at e
    rw [hC]; exact e
  obtain ⟨S, hS⟩ : ∃ S : Int, S = cb cls c := ⟨_, rfl⟩
  have b2 : Go.bits .or .u8 C T = S := by
    rw [hC, hT, hS]
    cases c with
    | true =>
      have e := or_b ⟨cls.toNat, by omega⟩
      simp only [Int.toNat_of_nonneg h0] at e
      exact e
    | false =>
      have e := or_c ⟨cls.toNat, by omega⟩
      simp only [Int.toNat_of_nonneg h0] at e
      simpa [cb] using e
  have b4 : Go.bits .or .u8 S 31 = S + 31 := by rw [hS]; exact or_cb cls c 31 h0 h1 (by omega) (by omega)
  obtain ⟨fin, hfin⟩ : ∃ fin, fin = identT cls tag c := ⟨_, rfl⟩
  rw [← hT, ← hC, ← hfin]
  have HF := Lib.hid hfin
  have HS := Lib.hid hS
  clear hT hC hfin hS
  go_enter Tryd.func114, Tryd.ntmps114
  go_wp2
  have st := st_first w (.int .u8 C) (.int .u8 T) (.int .u64 tag)
  obtain ⟨W1, hW1⟩ : ∃ W1, W1 = (w.alloc (.cells #[.int .u8 C, .int .u8 T, .int .u64 tag] 152)).alloc (.cells #[.int .u8 0] 5) := ⟨_, rfl⟩
  rw [← hW1] at st ⊢
  obtain ⟨k1, k2⟩ := st.at
  have k3 : W1.cell? ⟨w.heap.size, 0, none⟩ = some (.int .u8 C) := blk_cell st.box 0
  clear hW1
  go_region
  generalize hW2 : World.drew _ = W2
  have st2 := st.step (b := C) (.inr hW2.symm)
  clear hW2 k1 k2 k3 st
  obtain ⟨k1, k2⟩ := st2.at
  have k3 : W2.cell? ⟨w.heap.size, 1, none⟩ = some (.int .u8 T) := blk_cell st2.box 1
  go_wp2
  go_region
  generalize hW3 : World.drew _ = W3
  have st3 := st2.step (b := S) (.inr hW3.symm)
  clear hW3 k1 k2 k3 st2
  obtain ⟨k1, k2⟩ := st3.at
  have k3 : W3.cell? ⟨w.heap.size, 2, none⟩ = some (.int .u64 tag) := blk_cell st3.box 2
  by_cases ht : tag < 31
  · have hm : tag % 256 = tag := by omega
    have b3 : Go.bits .or .u8 S tag = S + tag := by rw [HS.out]; exact or_cb cls c tag h0 h1 t0 (by omega)
    go_wp2
    go_region
    generalize hW4 : World.drew _ = W4
    have st4 := st3.step (b := S + tag) (.inr hW4.symm)
    clear hW4 k1 k2 k3 st3
    go_wp2
    go_ret
    refine ⟨_, rfl, ?_, st4.below⟩
    rw [HF.out, identT, if_pos ht, ← HS.out]
    exact st4.row
  · have hcall := fun W => high_any tag.toNat (by omega) (by omega) W
    simp only [Int.toNat_of_nonneg t0] at hcall
    have HC := Lib.hid hcall
    clear hcall
    go_wp2_with (first
      | (at_builtin
         refine print_append_row (w0 := w) w.heap.size rfl (.tmp 38) (.tmp 40) 24 5 .u8 1 rfl Tryd.underlying24 info8 (by decide) _ [S + 31] (low tag (ng tag.toNat)).reverse _ _ _ rfl rfl R5.out RD5.out HB5.out HB5.out.size (by simp [low_length] at *; omega) ?_
         intro v1 w1 hown hB hg hat)
      | (go_at_call 118
         generalize hW4 : World.setCell W3 _ _ = W4
         have st4 := st3.step (b := S + 31) (.inl hW4.symm)
         clear hW4 k1 k2 k3 st3
         refine (HC.out W4).mono ?_
         rintro e w5 ⟨v5, rfl, hown5, hB5⟩
         have R5 := Lib.hid (pw_own_below st4.row hB5)
         have HB5 := Lib.hid (st4.below.trans (hB5.mono st4.below.size))
         obtain ⟨A5, c5, rfl, rd5⟩ := own_reads hown5
         have hng : ng tag.toNat ≤ 4 := ng_le 4 _ (by omega)
         have RD5 := Lib.hid rd5
         clear hown5 hB5 rd5 st4))
    go_ret
    refine ⟨_, rfl, ?_, hB⟩
    rw [HF.out, identT, if_neg (show ¬ tag < 31 by omega), ← HS.out]
    exact hown
end Go.Proofs.YtbmcpjkhnhbjdaaDoor.Ident
