/- Parts of the proof of one law, in the order in which they build. ber.encodeIdentifier and the reference's Identifier: the same bytes, the tag's groups of seven bits with the highest first. · (*ber.Packet).Bytes: identifier, length, data; the packet is only read. · (*ber.Packet).AppendChild: the child's bytes behind the data, the child behind the children. · (*bytes.Reader).Read: as many bytes as there are, or as there is room for. · What a reader is; io.ReadAtLeast of one byte, io.ReadFull, ber.readByte. -/
import Derived.BigRegion
import Derived.Deep.RegionWith
import Derived.Laws.Tables
import Derived.Laws.CopyRow
import Derived.Test.YtejbpbdlolehnaaDoorAny1
import Derived.Test.YtejbpbdlolehnaaDoorAny2
import Derived.Test.YtejbpbdlolehnaaDoorAny3
import Derived.Test.YtejbpbdlolehnaaDoorAny4
namespace Go.Proofs.YtejbpbdlolehnaaDoor.Ident
open Go.RowKit Go.Proofs.YtejbpbdlolehnaaDoorW.PrintWords Go.Proofs.YtejbpbdlolehnaaDoor.Num
set_option linter.unusedVariables false
set_option linter.unusedSimpArgs false

/-- the groups of seven bits, the lowest first: all but that bear the bit of continuation -/
def dig (t : Int) : Nat → Int
  | 0 => t % 128
  | i + 1 => t / 128 ^ (i + 1) % 128 + 128
def low (t : Int) (n : Nat) : List Int := (List.range n).map (dig t)
theorem low_length (t : Int) (n : Nat) : (low t n).length = n := by simp [low]
theorem low_snoc (t : Int) (n : Nat) : low t (n + 1) = low t n ++ [dig t n] := by simp [low, List.range_succ]
/-- how many groups -/
def ng (x : Nat) : Nat := if _h : x = 0 then 0 else ng (x / 128) + 1
decreasing_by omega
theorem ng_zero : ng 0 = 0 := by rw [ng, dif_pos rfl]
theorem ng_pos {x : Nat} (h : x ≠ 0) : ng x = ng (x / 128) + 1 := by rw [ng, dif_neg h]
theorem ng_le : ∀ (k x : Nat), x < 128 ^ k → ng x ≤ k := by
  intro k
  induction k with
  | zero => intro x h; have : x = 0 := by simpa using h
            rw [this, ng_zero]; exact Nat.le_refl _
  | succ k ih =>
    intro x h
    by_cases h0 : x = 0
    · rw [h0, ng_zero]; omega
    · rw [ng_pos h0]
      have := ih (x / 128) (by rw [Nat.pow_succ] at h; omega)
      omega

theorem or128' : ∀ n : Fin 128, Go.bits .or .u64 ((n : Nat) : Int) 128 = ((n : Nat) : Int) + 128 := by decide +kernel
theorem and_low (x : Nat) (hx : x < 18446744073709551616) : Go.bits .and .u64 (x : Int) 127 = ((x % 128 : Nat) : Int) := by
  show IntKind.u64.wrap ((BitVec.ofInt 64 (x : Int) &&& BitVec.ofInt 64 127).toNat : Int) = _
  rw [BitVec.toNat_and, BitVec.toNat_ofInt, BitVec.toNat_ofInt]
  have e0 : ((2 ^ 64 : Nat) : Int) = 18446744073709551616 := by decide
  rw [e0]
  have e1 : ((x : Int) % 18446744073709551616).toNat = x := by omega
  have e2 : ((127 : Int) % 18446744073709551616).toNat = 2 ^ 7 - 1 := by decide
  rw [e1, e2, Nat.and_two_pow_sub_one_eq_mod]
  show IntKind.u64.wrap _ = _
  rw [IntKind.wrap_u64]
  omega

def natT : Value → Nat
  | .int _ n => n.toNat
  | _ => 0
/-- a row after so many swaps of its ends -/
def sw (L : List Int) : Nat → List Int
  | 0 => L
  | i + 1 => ((sw L i).set i (rd (sw L i) ((L.length : Int) - 1 - i))).set (L.length - 1 - i) (rd (sw L i) (i : Int))
theorem sw_all (L : List Int) (h1 : 1 ≤ L.length) (h4 : L.length ≤ 4) : sw L (L.length / 2) = L.reverse := by
  match L, h1, h4 with
  | [a], _, _ => simp [sw]
  | [a, b], _, _ => simp [sw, rd]
  | [a, b, c], _, _ => simp [sw, rd]
  | [a, b, c, d], _, _ => simp [sw, rd]
theorem info8 : (Tryd.prog.info? 5).map (fun i => (i.zero, i.size, i.bytes)) = some (some (.int .u8 0), 1, 1) := by kernel_rfl

theorem round_end {t j x : Nat} {w w1 : World} {v1 : Value} {y : Int} (hx : x = t / 128 ^ j) (hn : ng x + j = ng t) (hz : x ≠ 0) (hown : w1.ownsRow w.heap.size 5 1 v1 (low t j ++ [y]).length (nums .u8 (low t j ++ [y]))) (hB : Below w.heap.size w w1) (hy : y = dig t j) :
    (∃ j, Value.int .u64 ((x : Int) / 128) = Value.int .u64 ((t / 128 ^ j : Nat) : Int) ∧ Hid (ng (t / 128 ^ j) + j = ng t) ∧ Hid (w1.ownsRow w.heap.size 5 1 v1 (low t j).length (nums .u8 (low t j))) ∧ Hid (Below w.heap.size w w1)) ∧
      ng (natT (Value.int .u64 ((x : Int) / 128))) < ng (natT (Value.int .u64 (x : Int))) := by
  have e : t / 128 ^ (j + 1) = x / 128 := by rw [hx, Nat.pow_succ, Nat.div_div_eq_div_mul]
  have h1 := ng_pos hz
  refine ⟨⟨j + 1, by rw [e]; push_cast; rfl, Lib.hid (by rw [e]; omega), Lib.hid (by rw [low_snoc, ← hy]; exact hown), Lib.hid hB⟩, ?_⟩
  show ng ((x : Int) / 128).toNat < ng (x : Int).toNat
  rw [Int.toNat_natCast, show ((x : Int) / 128).toNat = x / 128 by omega]
  omega

theorem swap_end {w wr W5 : World} {gb j i c : Nat} {L : List Int} (hL : L.length = j) (hi : i < j / 2) (HO : wr.ownsRow w.heap.size 5 1 (.slice (some ⟨gb, 0, none⟩) j c) j (nums .u8 (sw L i))) (HB : Below w.heap.size w wr)
    (hW : W5 = ((wr.setCell ⟨gb, i, none⟩ (.int .u8 (rd (sw L i) ((j : Int) - 1 - i)))).setCell ⟨gb, j - 1 - i, none⟩ (.int .u8 (rd (sw L i) (i : Int)))).drew) :
    W5.ownsRow w.heap.size 5 1 (.slice (some ⟨gb, 0, none⟩) j c) j (nums .u8 (sw L (i + 1))) ∧ Below w.heap.size w W5 := by
  have hgb : w.heap.size ≤ gb := by
    rcases HO.2 with ⟨hv, _⟩ | ⟨g', _, _, hv, hg, _⟩
    · cases hv
    · injection hv with hv; injection hv with hv; injection hv with hv; omega
  have h1 := (own_store HO (i : Int) (rd (sw L i) ((j : Int) - 1 - i))).1
  rw [Int.toNat_natCast] at h1
  have h2 := (own_store h1 ((j - 1 - i : Nat) : Int) (rd (sw L i) (i : Int))).1
  rw [Int.toNat_natCast] at h2
  rw [hW]
  refine ⟨?_, ((HB.setCell (p := ⟨gb, i, none⟩) hgb _).setCell (p := ⟨gb, j - 1 - i, none⟩) hgb _).drew⟩
  rw [sw, hL]
  exact h2.drew

set_option maxHeartbeats 6400000 in
set_option maxRecDepth 100000 in
theorem high_any (t : Nat) (ht : t < 268435456) (h0 : 0 < t) (w : World) :
    Calls Tryd.prog 74 #[.int .u64 t] w fun e w' => ∃ v, e = .returned v ∧ w'.ownsRow w.heap.size 5 1 v (ng t) (nums .u8 (low t (ng t)).reverse) ∧ Below w.heap.size w w' := by
  obtain ⟨i0, hi, hz0, hz1, hz2⟩ := info_parts info8
  obtain ⟨M, hM⟩ : ∃ M, M = madeCells (Value.int .u8 0).cells ((4 : Int).toNat * i0.size) := ⟨_, rfl⟩
  have hMs : M.size = 4 := by rw [hM, size_madeCells, hz1]; rfl
  have hmk : ∀ W : World, (Instr.makeSlice 22 (.int .i64 0) (.int .i64 4)).run Tryd.prog W = .ok (.slice (some ⟨W.heap.size, 0, none⟩) 0 4) (W.alloc (.cells M 5)) := fun W => by
    have h := run_makeSlice (P := Tryd.prog) W 22 5 i0 (.int .u8 0) Tryd.underlying22 hi hz0 .i64 .i64 0 4 (by omega) (by omega) (by rw [hz1]; decide) (by rw [hz2]; decide) (by decide)
    rw [← hM] at h
    simpa using h
  have hM2 := Lib.hid hMs
  clear hM hi hz0 hz1 hz2
  go_enter Tryd.func74, Tryd.ntmps74
  go_wp2
  have hst : (w.alloc (.cells M 5)).ownsRow w.heap.size 5 1 (.slice (some ⟨w.heap.size, 0, none⟩) 0 4) 0 (nums .u8 (low t 0)) := by
    refine ⟨by simp [low, nums], .inr ⟨w.heap.size, 4, M, rfl, Nat.le_refl _, blk_new _ _, ?_⟩⟩
    simp [hMs, low, nums, maxLen]
  have HST := Lib.hid hst
  clear hst
  go_loopw [0, 3] (fun tv bv wr => ∃ j : Nat, tv = .int .u64 ((t / 128 ^ j : Nat) : Int) ∧ Hid (ng (t / 128 ^ j) + j = ng t) ∧ Hid (wr.ownsRow w.heap.size 5 1 bv (low t j).length (nums .u8 (low t j))) ∧ Hid (Below w.heap.size w wr)) (fun tv _ _ => ng (natT tv))
  case atStart => exact ⟨0, by simp, Lib.hid (by simp), HST, Lib.hid (below_alloc (Below.refl _ _) _)⟩
  case round =>
    obtain ⟨j, rfl, HN, HO, HB⟩ := hrel
    obtain ⟨A, c, rfl⟩ := own_slice HO.out
    have hlen := low_length t j
    obtain ⟨x, hx⟩ : ∃ x, x = t / 128 ^ j := ⟨_, rfl⟩
    rw [← hx] at HN ⊢
    have hxt : x ≤ t := by rw [hx]; exact Nat.div_le_self _ _
    have HX := Lib.hid hx
    clear hx
    by_cases hz : x = 0
    · subst hz
      have hjn : j = ng t := by have := HN.out; rw [ng_zero] at this; omega
      have hj1 : 1 ≤ j := by
        rw [hjn, ng_pos (by omega)]
        omega
      have hj4 : j ≤ 4 := by have := ng_le 4 t (by omega); omega
      obtain ⟨gb, rfl⟩ : ∃ gb, A = some ⟨gb, 0, none⟩ := by
        rcases HO.out.2 with ⟨hv, hl⟩ | ⟨gb, _, _, hv, _⟩
        · injection hv with _ hv
          omega
        · injection hv with hv
          exact ⟨gb, hv⟩
      have HJ := Lib.hid hjn
      clear hjn
      rw [hlen] at HO
      have HL := Lib.hid hlen
      have hw1 : wrap64 ((j : Int) - 1) = (j : Int) - 1 := by unfold wrap64; omega
      rw [hlen]
      clear hlen
      go_wp2
      go_loopw [5] (fun iv wr2 => ∃ i : Nat, iv = .int .i64 i ∧ i ≤ j / 2 ∧ Hid (wr2.ownsRow w.heap.size 5 1 (.slice (some ⟨gb, 0, none⟩) j c) j (nums .u8 (sw (low t j) i))) ∧ Hid (Below w.heap.size w wr2)) (fun iv _ => j / 2 - (intOf iv).toNat)
      case atStart => exact ⟨0, rfl, Nat.zero_le _, HO, HB⟩
      case round =>
        obtain ⟨i, rfl, hi, HO2, HB2⟩ := hrel
        by_cases hlt : i < j / 2
        · have hb1 : (0 : Int) ≤ (j : Int) - 1 - i := by omega
          have hb2 : (j : Int) - 1 - i < j := by omega
          have hb3 : (i : Int) < j := by omega
          obtain ⟨hc1, hf1⟩ := own_at HO2.out ((j : Int) - 1 - i) hb1 hb2
          have hn1 : ((j : Int) - 1 - i).toNat = j - 1 - i := by omega
          rw [hn1] at hc1 hf1
          obtain ⟨hc2, hf2⟩ := own_at HO2.out (i : Int) (by omega) hb3
          rw [Int.toNat_natCast] at hc2 hf2
          have hw2 : wrap64 ((j : Int) - 1 - i) = (j : Int) - 1 - i := by unfold wrap64; omega
          go_wp2
          go_region
          generalize hW5 : World.drew _ = W5
          obtain ⟨h1, h2⟩ := swap_end HL.out hlt HO2.out HB2.out hW5.symm
          have H1 := Lib.hid h1
          have H2 := Lib.hid h2
          clear h1 h2 hW5
          have hw3 : wrap64 ((i : Int) + 1) = ((i + 1 : Nat) : Int) := by unfold wrap64; omega
          go_wp2
          exact ⟨⟨i + 1, rfl, by omega, H1, H2⟩, by simp only [intOf, Int.toNat_natCast]; omega⟩
        · obtain rfl : i = j / 2 := by omega
          go_wp2
          go_ret
          refine ⟨_, rfl, ?_, HB2.out⟩
          have := HO2.out
          rw [← HJ.out, ← sw_all _ (by rw [HL.out]; exact hj1) (by rw [HL.out]; exact hj4), HL.out]
          exact this
    · have hj4 : j ≤ 4 := by have := ng_le 4 t (by omega); have := HN.out; omega
      have e1 : Go.bits .and .u64 (x : Int) 127 = (x : Int) % 128 := by
        rw [and_low x (by omega)]
        push_cast
        rfl
      have e2 : Go.bits .or .u64 ((x : Int) % 128) 128 = (x : Int) % 128 + 128 := by
        have := or128' ⟨x % 128, Nat.mod_lt _ (by omega)⟩
        simpa using this
      have e3 : ((x : Int) % 128) % 256 = (x : Int) % 128 := by omega
      have e4 : ((x : Int) % 128 + 128) % 256 = (x : Int) % 128 + 128 := by omega
      by_cases hj : j = 0
      · subst hj
        go_wp2_with (at_builtin; refine print_append_num (w0 := w) w.heap.size rfl (.tmp 19) (.tmp 22) 22 5 .u8 1 rfl Tryd.underlying22 info8 (by decide) _ (low t 0) _ rfl rfl HO.out HB.out HB.out.size (by rw [low_length]; omega) ?_; intro v1 w1 hown hB hg hat)
        exact round_end HX.out HN.out hz hown hB (by have h := HX.out; simp only [Nat.pow_zero, Nat.div_one] at h; rw [dig, h])
      · go_wp2_with (at_builtin; refine print_append_num (w0 := w) w.heap.size rfl (.tmp 19) (.tmp 22) 22 5 .u8 1 rfl Tryd.underlying22 info8 (by decide) _ (low t j) _ rfl rfl HO.out HB.out HB.out.size (by rw [low_length]; omega) ?_; intro v1 w1 hown hB hg hat)
        exact round_end HX.out HN.out hz hown hB (by
          obtain ⟨i, rfl⟩ : ∃ i, j = i + 1 := ⟨j - 1, by omega⟩
          have h : ((x : Nat) : Int) = (t : Int) / 128 ^ (i + 1) := by rw [HX.out]; push_cast; rfl
          rw [dig, ← h])
end Go.Proofs.YtejbpbdlolehnaaDoor.Ident

namespace Go.Proofs.YtejbpbdlolehnaaDoor.Ident
open Go.RowKit Go.Proofs.YtejbpbdlolehnaaDoorW.PrintWords Go.Proofs.YtejbpbdlolehnaaDoor.Num Go.Proofs.YtejbpbdlolehnaaDoor.PFnEncode
set_option linter.unusedVariables false
set_option linter.unusedSimpArgs false

/-- the first byte without the tag -/
def cb (cls : Int) (c : Bool) : Int := cls * 64 + (if c then 32 else 0)
/-- the bytes of an identifier -/
def identT (cls tag : Int) (c : Bool) : List Int :=
  if tag < 31 then [cb cls c + tag] else (cb cls c + 31) :: (low tag (ng tag.toNat)).reverse

theorem or_a : ∀ n : Fin 256, Go.bits .or .u8 0 ((n : Nat) : Int) = ((n : Nat) : Int) := by decide +kernel
theorem or_b : ∀ n : Fin 4, Go.bits .or .u8 (((n : Nat) : Int) * 64) 32 = ((n : Nat) : Int) * 64 + 32 := by decide +kernel
theorem or_c : ∀ n : Fin 4, Go.bits .or .u8 (((n : Nat) : Int) * 64) 0 = ((n : Nat) : Int) * 64 := by decide +kernel
theorem or_d : ∀ (n : Fin 8) (t : Fin 32), Go.bits .or .u8 (((n : Nat) : Int) * 32) ((t : Nat) : Int) = ((n : Nat) : Int) * 32 + ((t : Nat) : Int) := by decide +kernel
theorem or_cb (cls : Int) (c : Bool) (t : Int) (h0 : 0 ≤ cls) (h1 : cls ≤ 3) (t0 : 0 ≤ t) (t1 : t < 32) : Go.bits .or .u8 (cb cls c) t = cb cls c + t := by
  have := or_d ⟨(cls * 2 + (if c then 1 else 0)).toNat, by split <;> omega⟩ ⟨t.toNat, by omega⟩
  simp only [Int.toNat_of_nonneg t0] at this
  have e : (((cls * 2 + (if c then 1 else 0)).toNat : Nat) : Int) * 32 = cb cls c := by
    unfold cb
    split <;> omega
  rwa [e] at this

theorem identT_le' (a b : Int) (c : Bool) (h0 : 0 ≤ b) (h : b < 268435456) : (identT a b c).length ≤ 5 := by
  unfold identT
  split
  · simp
  · have := ng_le 4 b.toNat (by omega)
    simp [low_length]
    exact this
end Go.Proofs.YtejbpbdlolehnaaDoor.Ident

namespace Go.Proofs.YtejbpbdlolehnaaDoor.Ident
open Go.RowKit Go.Proofs.YtejbpbdlolehnaaDoorW.PrintWords Go.Proofs.YtejbpbdlolehnaaDoor.Num
set_option linter.unusedVariables false
set_option linter.unusedSimpArgs false

/-- the state between the regions: the argument's box and the row of one byte -/
structure St (w W : World) (cv tv gv : Value) (a : Int) : Prop where
  box : W.heap[w.heap.size]? = some (.cells #[cv, tv, gv] 69 (0, 0))
  row : W.ownsRow w.heap.size 5 1 (.slice (some ⟨w.heap.size + 1, 0, none⟩) 1 1) 1 (nums .u8 [a])
  below : Below w.heap.size w W

theorem st_first (w : World) (cv tv gv : Value) : St w ((w.alloc (.cells #[cv, tv, gv] 69)).alloc (.cells #[.int .u8 0] 5)) cv tv gv 0 := by
  refine ⟨?_, ⟨by simp [nums], .inr ⟨w.heap.size + 1, 1, #[.int .u8 0], rfl, by omega, ?_, by simp [nums], by unfold maxLen; omega, rfl, rfl⟩⟩, below_alloc (below_alloc (Below.refl _ _) _) _⟩
  · exact blk_alloc (blk_new _ _) _
  · have := blk_new (w.alloc (.cells #[cv, tv, gv] 69)) (.cells #[.int .u8 0] 5)
    simpa using this

theorem St.at {w W : World} {cv tv gv : Value} {a : Int} (h : St w W cv tv gv a) : W.cell? ⟨w.heap.size + 1, 0, none⟩ = some (.int .u8 a) ∧ W.frozen? ⟨w.heap.size + 1, 0, none⟩ = false := by
  have := own_at h.row (0 : Int) (by omega) (by omega)
  simpa [rd] using this

theorem St.step {w W W' : World} {cv tv gv : Value} {a b : Int} (h : St w W cv tv gv a) (hW : W' = W.setCell ⟨w.heap.size + 1, 0, none⟩ (.int .u8 b) ∨ W' = (W.setCell ⟨w.heap.size + 1, 0, none⟩ (.int .u8 b)).drew) : St w W' cv tv gv b := by
  have h1 := (own_store h.row (0 : Int) b).1
  have h2 : (W.setCell ⟨w.heap.size + 1, 0, none⟩ (.int .u8 b)).heap[w.heap.size]? = some (.cells #[cv, tv, gv] 69 (0, 0)) := (Below.heap_setCell W ⟨w.heap.size + 1, 0, none⟩ _ _ (by show w.heap.size ≠ w.heap.size + 1; omega)).trans h.box
  have h3 := h.below.setCell (p := ⟨w.heap.size + 1, 0, none⟩) (Nat.le_succ _) (.int .u8 b)
  rcases hW with rfl | rfl
  · exact ⟨h2, h1, h3⟩
  · exact ⟨h2, h1.drew, h3.drew⟩

set_option maxHeartbeats 6400000 in
set_option maxRecDepth 100000 in
theorem ident_any (cls tag : Int) (c : Bool) (h0 : 0 ≤ cls) (h1 : cls ≤ 3) (t0 : 0 ≤ tag) (t1 : tag < 268435456) (w : World) :
    Calls Tryd.prog 66 #[.agg #[.int .u8 (cls * 64), .int .u8 (if c then 32 else 0), .int .u64 tag]] w fun e w' => ∃ v, e = .returned v ∧ w'.ownsRow w.heap.size 5 1 v (identT cls tag c).length (nums .u8 (identT cls tag c)) ∧ Below w.heap.size w w' := by
  obtain ⟨T, hT⟩ : ∃ T : Int, T = if c then 32 else 0 := ⟨_, rfl⟩
  obtain ⟨C, hC⟩ : ∃ C : Int, C = cls * 64 := ⟨_, rfl⟩
  have b1 : Go.bits .or .u8 0 C = C := by
    have e := or_a ⟨(cls * 64).toNat, by omega⟩
    simp only [Int.toNat_of_nonneg (show 0 ≤ cls * 64 by omega)] at e
    rw [hC]; exact e
  obtain ⟨S, hS⟩ : ∃ S : Int, S = cb cls c := ⟨_, rfl⟩
  have b2 : Go.bits .or .u8 C T = S := by
    rw [hC, hT, hS]
    cases c with
    | true =>
      have e := or_b ⟨cls.toNat, by omega⟩
      simp only [Int.toNat_of_nonneg h0] at e
      exact e
    | false =>
      have e := or_c ⟨cls.toNat, by omega⟩
      simp only [Int.toNat_of_nonneg h0] at e
      simpa [cb] using e
  have b4 : Go.bits .or .u8 S 31 = S + 31 := by rw [hS]; exact or_cb cls c 31 h0 h1 (by omega) (by omega)
  obtain ⟨fin, hfin⟩ : ∃ fin, fin = identT cls tag c := ⟨_, rfl⟩
  rw [← hT, ← hC, ← hfin]
  have HF := Lib.hid hfin
  have HS := Lib.hid hS
  clear hT hC hfin hS
  go_enter Tryd.func66, Tryd.ntmps66
  go_wp2
  have st := st_first w (.int .u8 C) (.int .u8 T) (.int .u64 tag)
  obtain ⟨W1, hW1⟩ : ∃ W1, W1 = (w.alloc (.cells #[.int .u8 C, .int .u8 T, .int .u64 tag] 69)).alloc (.cells #[.int .u8 0] 5) := ⟨_, rfl⟩
  rw [← hW1] at st ⊢
  obtain ⟨k1, k2⟩ := st.at
  have k3 : W1.cell? ⟨w.heap.size, 0, none⟩ = some (.int .u8 C) := blk_cell st.box 0
  clear hW1
  go_region
  generalize hW2 : World.drew _ = W2
  have st2 := st.step (b := C) (.inr hW2.symm)
  clear hW2 k1 k2 k3 st
  obtain ⟨k1, k2⟩ := st2.at
  have k3 : W2.cell? ⟨w.heap.size, 1, none⟩ = some (.int .u8 T) := blk_cell st2.box 1
  go_wp2
  go_region
  generalize hW3 : World.drew _ = W3
  have st3 := st2.step (b := S) (.inr hW3.symm)
  clear hW3 k1 k2 k3 st2
  obtain ⟨k1, k2⟩ := st3.at
  have k3 : W3.cell? ⟨w.heap.size, 2, none⟩ = some (.int .u64 tag) := blk_cell st3.box 2
  by_cases ht : tag < 31
  · have hm : tag % 256 = tag := by omega
    have b3 : Go.bits .or .u8 S tag = S + tag := by rw [HS.out]; exact or_cb cls c tag h0 h1 t0 (by omega)
    go_wp2
    go_region
    generalize hW4 : World.drew _ = W4
    have st4 := st3.step (b := S + tag) (.inr hW4.symm)
    clear hW4 k1 k2 k3 st3
    go_wp2
    go_ret
    refine ⟨_, rfl, ?_, st4.below⟩
    rw [HF.out, identT, if_pos ht, ← HS.out]
    exact st4.row
  · have hcall := fun W => high_any tag.toNat (by omega) (by omega) W
    simp only [Int.toNat_of_nonneg t0] at hcall
    have HC := Lib.hid hcall
    clear hcall
    go_wp2_with (first
      | (at_builtin
         refine print_append_row (w0 := w) w.heap.size rfl (.tmp 38) (.tmp 40) 22 5 .u8 1 rfl Tryd.underlying22 info8 (by decide) _ [S + 31] (low tag (ng tag.toNat)).reverse _ _ _ rfl rfl R5.out RD5.out HB5.out HB5.out.size (by simp [low_length] at *; omega) ?_
         intro v1 w1 hown hB hg hat)
      | (go_at_call 74
         generalize hW4 : World.setCell W3 _ _ = W4
         have st4 := st3.step (b := S + 31) (.inl hW4.symm)
         clear hW4 k1 k2 k3 st3
         refine (HC.out W4).mono ?_
         rintro e w5 ⟨v5, rfl, hown5, hB5⟩
         have R5 := Lib.hid (pw_own_below st4.row hB5)
         have HB5 := Lib.hid (st4.below.trans (hB5.mono st4.below.size))
         obtain ⟨A5, c5, rfl, rd5⟩ := own_reads hown5
         have hng : ng tag.toNat ≤ 4 := ng_le 4 _ (by omega)
         have RD5 := Lib.hid rd5
         clear hown5 hB5 rd5 st4))
    go_ret
    refine ⟨_, rfl, ?_, hB⟩
    rw [HF.out, identT, if_neg (show ¬ tag < 31 by omega), ← HS.out]
    exact hown
end Go.Proofs.YtejbpbdlolehnaaDoor.Ident
namespace Go.Proofs.YtejbpbdlolehnaaDoor.Ber
open Go.RowKit Go.Proofs.YtejbpbdlolehnaaDoorW.PrintWords Go.Proofs.YtejbpbdlolehnaaDoor.Buf Go.Proofs.YtejbpbdlolehnaaDoor.Pk Go.Proofs.YtejbpbdlolehnaaDoor.Num Go.Proofs.YtejbpbdlolehnaaDoor.Ident
set_option linter.unusedVariables false
set_option linter.unusedSimpArgs false

theorem own_row_parts {W : World} {base : Nat} {v : Value} {ys : List Int} (h : W.ownsRow base 5 1 v ys.length (nums .u8 ys)) :
    ∃ A c, v = .slice A ys.length c ∧ ys.length ≤ c ∧ B8.C W A ys.length ys ∧ ∀ {b : Nat} {v' : Value}, Hdr W b v' → ∀ a, A = some a → 1 ≤ ys.length → a.block ≠ b := by
  obtain ⟨A, c, rfl, hl, hc⟩ := Kd.R_reads (own_int h (ok := fun _ => True) (fun _ _ => trivial))
  refine ⟨A, c, rfl, hl, hc, ?_⟩
  rintro b v' hb a rfl _ rfl
  exact row_ne hb h rfl

/-- A buffer of the call's own, at the first new block. -/
structure Mine (w W : World) (v : Value) (xs : List Int) : Prop where
  buf : IsBuf W w.heap.size v xs
  own : ∀ k, v.ownBlock = some k → w.heap.size ≤ k
  below : Below w.heap.size w W

theorem mine_first (w : World) : Mine w (w.alloc (.cells #[.slice none 0 0, .int .i64 0, .int .i8 0] 81)) (.slice none 0 0) [] :=
  ⟨⟨⟨0, blk_new _ _⟩, ⟨rfl, .inl ⟨rfl, rfl⟩⟩⟩, fun k hk => by simp [Value.ownBlock] at hk, below_alloc (Below.refl _ _) _⟩

theorem Mine.call {w W W' : World} {v : Value} {xs : List Int} (h : Mine w W v xs) (hb : Below W.heap.size W W') : Mine w W' v xs := by
  obtain ⟨⟨⟨lr, hh⟩, ho⟩, hk, hB⟩ := h
  exact ⟨⟨⟨lr, blk_below hh hb⟩, pw_own_below ho hb⟩, hk, hB.trans (hb.mono hB.size)⟩

theorem Mine.wrote {w W W' : World} {v : Value} {xs ys : List Int} {e0 e : Ending} (h : Mine w W v xs) (hw : Wrote W w.heap.size v ys e0 e W') : e = e0 ∧ ∃ v', Mine w W' v' ys := by
  obtain ⟨he, v', hbuf, hrow, hon⟩ := hw
  refine ⟨he, v', hbuf, ?_, h.below.trans (hon.below h.below.size ?_)⟩
  · intro k hk
    rcases hrow with h1 | ⟨N, h1, h2⟩
    · exact h.own k (h1 ▸ hk)
    · rw [h1] at hk
      injection hk with hk
      have := h.below.size
      omega
  · rintro i (rfl | hi)
    · exact Nat.le_refl _
    · exact h.own i hi.symm

theorem Mine.shelf {w W : World} {v : Value} {xs : List Int} (h : Mine w W v xs) : Lib.IsBuffer 81 5 w.heap.size w.heap.size (nums .u8 xs) W := by
  obtain ⟨⟨⟨lr, hh⟩, ho⟩, hk, hB⟩ := h
  refine ⟨Nat.le_refl _, v, lr, hh, ?_, row_ne ⟨lr, hh⟩ ho⟩
  rw [nums_length]
  exact own_base_at ho hk

/-- the bytes of a packet in memory -/
def pkBytes (cls tag : Int) (c : Bool) (data : List Int) : List Int := identT cls tag c ++ lenBytes data.length ++ data

set_option maxHeartbeats 400000 in
set_option maxRecDepth 100000 in
theorem bytes_any {base : Nat} {ok : Nat → Prop} {b db : Nat} {v bv cv : Value} (cls tag : Int) (c : Bool) (h0 : 0 ≤ cls) (h1 : cls ≤ 3) (t0 : 0 ≤ tag) (t1 : tag < 268435456) (x : Pk) (hx0 : x.cls = cls * 64) (hx1 : x.typ = if c then 32 else 0) (hx2 : x.tag = tag)
    (hl : x.data.length < 1099511627776) (w : World) (P : Parts w base ok b x db v bv cv) :
    Calls Tryd.prog 54 #[.pointer (some ⟨b, 0, none⟩)] w fun e w' => ∃ r, e = .returned r ∧ w'.ownsRow w.heap.size 5 1 r (pkBytes cls tag c x.data).length (nums .u8 (pkBytes cls tag c x.data)) ∧ Below w.heap.size w w' := by
  have hid := fun W => ident_any cls tag c h0 h1 t0 t1 W
  have hle := fun W => encLen_any x.data.length (by simp; omega) W
  have hil := identT_le' cls tag c t0 t1
  have hll := lenBytes_le x.data.length (by simp; omega)
  rw [← hx0, ← hx1] at hid
  have HI := Lib.hid hid
  have HL := Lib.hid hle
  have HX := Lib.hid hx2
  clear hid hle
  have M0 := mine_first w
  have c0 : (w.alloc (.cells #[.slice none 0 0, .int .i64 0, .int .i8 0] 81)).cell? ⟨b, 0, none⟩ = some (.int .u8 x.cls) := (P.below M0.below).cell 0
  have c1 : (w.alloc (.cells #[.slice none 0 0, .int .i64 0, .int .i8 0] 81)).cell? ⟨b, 1, none⟩ = some (.int .u8 x.typ) := (P.below M0.below).cell 1
  have c2 : (w.alloc (.cells #[.slice none 0 0, .int .i64 0, .int .i8 0] 81)).cell? ⟨b, 2, none⟩ = some (.int .u64 tag) := ((P.below M0.below).cell 2).trans (by rw [← hx2]; rfl)
  have HM := Lib.hid M0
  have HP := Lib.hid P
  obtain ⟨W0, hW0⟩ : ∃ W0, W0 = w.alloc (.cells #[.slice none 0 0, .int .i64 0, .int .i8 0] 81) := ⟨_, rfl⟩
  have HW0 := Lib.hid hW0
  clear M0 hW0 P hx2 hx0 hx1
  obtain ⟨fin, hfin⟩ : ∃ fin, fin = pkBytes cls tag c x.data := ⟨_, rfl⟩
  rw [← hfin]
  have HF := Lib.hid hfin
  clear hfin
  go_enter Tryd.func54, Tryd.ntmps54
  go_wp2_with (first
    | (go_at_call 66
       rw [← HW0.out] at HM ⊢
       clear c0 c1 c2
       with_reducible refine (HI.out W0).mono ?_
       rintro e W1 ⟨v1, rfl, ho1, hB1⟩
       obtain ⟨A1, d1, rfl, hl1, hc1, hne1⟩ := own_row_parts ho1
       have HW1 := Lib.hid (write_row w.heap.size _ _ (identT cls tag c) A1 d1 W1 (HM.out.call hB1).buf hc1 (hne1 (HM.out.call hB1).buf.1) (by simp; omega))
       have HM1 := Lib.hid (HM.out.call hB1)
       clear ho1 hB1 hl1 hc1 hne1)
    | (go_at_call 43
       with_reducible refine HW1.out.mono ?_
       rintro e W2 hw
       obtain ⟨rfl, v2, hM2⟩ := HM1.out.wrote hw
       have HM2 := Lib.hid hM2
       have c5 : W2.cell? ⟨b, 5, none⟩ = some (.pointer (some ⟨db, 0, none⟩)) := (HP.out.below hM2.below).cell 5
       have HL1 := Lib.hid (Tryd.Buffer_Len 0 db (nums .u8 x.data) W2 (HP.out.below hM2.below).buf.shelf)
       clear hw hM2 HW1))
  go_wp2_with (first
    | (go_at_call 67
       with_reducible refine HL1.out.mono ?_
       rintro e W3 ⟨rfl, n3, hW3⟩
       have HM3 := Lib.hid (HM2.out.call (hW3 ▸ pw_below_drewN (Below.refl _ W2) n3))
       clear hW3 HM2 HM1 HL1 c5
       rw [nums_length])
    | (go_at_call 34
       with_reducible refine (HL.out W3).mono ?_
       rintro e W4 ⟨v4, rfl, hR4, hB4⟩
       obtain ⟨A4, d4, rfl, hl4, hc4, hne4⟩ := own_row_parts (int_own hR4)
       have HW4 := Lib.hid (write_row w.heap.size _ _ (lenBytes x.data.length) A4 d4 W4 (HM3.out.call hB4).buf hc4 (hne4 (HM3.out.call hB4).buf.1) (by simp; omega))
       have HM4 := Lib.hid (HM3.out.call hB4)
       clear hR4 hB4 hl4 hc4 hne4 HM3)
    | (go_at_call 43
       with_reducible refine HW4.out.mono ?_
       rintro e W5 hw
       obtain ⟨rfl, v5, hM5⟩ := HM4.out.wrote hw
       have HM5 := Lib.hid hM5
       have c5 : W5.cell? ⟨b, 5, none⟩ = some (.pointer (some ⟨db, 0, none⟩)) := (HP.out.below hM5.below).cell 5
       have HB5 := Lib.hid (Tryd.Buffer_Bytes 0 db (nums .u8 x.data) W5 (HP.out.below hM5.below).buf.shelf)
       clear hw hM5 HW4 HM4))
  go_wp2_with (first
    | (go_at_call 33
       with_reducible refine HB5.out.mono ?_
       rintro e W6 ⟨v6, rfl, ho6, n6, hW6⟩
       rw [nums_length] at ho6
       obtain ⟨A6, d6, rfl, hl6, hc6, hne6⟩ := own_row_parts ho6
       have hM6 := HM5.out.call (hW6 ▸ pw_below_drewN (Below.refl _ W5) n6)
       have HW6 := Lib.hid (write_row w.heap.size _ _ x.data A6 d6 W6 hM6.buf hc6 (hne6 hM6.buf.1) (by simp; omega))
       have HM6 := Lib.hid hM6
       clear hW6 HM5 HB5 c5 ho6 hl6 hc6 hne6 hM6)
    | (go_at_call 43
       with_reducible refine HW6.out.mono ?_
       rintro e W7 hw
       obtain ⟨rfl, v7, hM7⟩ := HM6.out.wrote hw
       have HM7 := Lib.hid hM7
       have HB7 := Lib.hid (Tryd.Buffer_Bytes w.heap.size w.heap.size _ W7 hM7.shelf)
       clear hw hM7 HW6 HM6))
  go_wp2_with (go_at_call 33; with_reducible refine HB7.out.mono ?_; rintro e W8 ⟨v8, rfl, ho8, n8, hW8⟩)
  go_ret
  rw [nums_length] at ho8
  subst hW8
  refine ⟨v8, rfl, ?_, pw_below_drewN HM7.out.below n8⟩
  rw [HF.out, pkBytes]
  simpa using ho8
end Go.Proofs.YtejbpbdlolehnaaDoor.Ber

namespace Go.Proofs.YtejbpbdlolehnaaDoor.Ber
open Go.RowKit Go.Proofs.YtejbpbdlolehnaaDoorW.PrintWords Go.Proofs.YtejbpbdlolehnaaDoor.Buf Go.Proofs.YtejbpbdlolehnaaDoor.Pk Go.Proofs.YtejbpbdlolehnaaDoor.Num Go.Proofs.YtejbpbdlolehnaaDoor.Ident
set_option linter.unusedVariables false
set_option linter.unusedSimpArgs false

theorem infoP : (Tryd.prog.info? 50).map (fun i => (i.zero, i.size, i.bytes)) = some (some (.pointer none), 1, 8) := by kernel_rfl

/-- The end: the grown row in the struct. -/
theorem app_end {W2 w1 : World} {base : Nat} {ok : Nat → Prop} {b db : Nat} {v bv cv v1 : Value} {x y : Pk} (P : Parts W2 base ok b x db v bv cv)
    (hR : kPk.R TP w1 base (fun k => ok k ∧ k ≠ b ∧ k ≠ db ∧ some k ≠ v.ownBlock) v1 (x.kids ++ [y])) (hg : W2.grownBy w1 cv.ownBlock) :
    Parts (w1.setCell ⟨b, 6, none⟩ v1) base ok b { x with kids := x.kids ++ [y] } db v bv v1 ∧ Only (fun i => i = b ∨ some i = cv.ownBlock) W2 (w1.setCell ⟨b, 6, none⟩ v1) := by
  obtain ⟨h0, inner, ho, hr⟩ := P.rk
  have hne : some b ≠ cv.ownBlock := fun e => (h0 b e.symm).2.1 rfl
  have hned : some db ≠ cv.ownBlock := fun e => (h0 db e.symm).2.2.1 rfl
  have hbw : w1.heap[b]? = some (.cells (cellsOf x bv db cv) T (0, 0)) := blk_grown P.hb hg hne
  obtain ⟨lr, hd⟩ := P.hd
  have hdw : w1.heap[db]? = some (.cells #[v, .int .i64 0, .int .i8 lr] TB (0, 0)) := blk_grown hd hg hned
  have hkeep : ∀ {k : Nat} {cs : Array Value}, W2.heap[k]? = some (.cells cs 5 (0, 0)) → k < W2.heap.size → (w1.setCell ⟨b, 6, none⟩ v1).heap[k]? = W2.heap[k]? := by
    intro k cs hc hk
    have h1 : k ≠ b := blk_ne hc P.hb (by decide)
    have h2 : some k ≠ cv.ownBlock := fun e => by
      obtain ⟨cells, hc'⟩ := own_typed ho k e.symm
      exact blk_ne hc hc' (by decide) rfl
    exact (Below.heap_setCell w1 ⟨b, 6, none⟩ v1 k h1).trans (hg.block k hk h2)
  refine ⟨⟨P.val, P.okb, P.leb, P.okd, P.led, ?_, ⟨lr, blk_far hdw (p := ⟨b, 6, none⟩) (Ne.symm P.dne) v1⟩, ?_, ?_, ?_⟩, ?_⟩
  · exact Lib.heap_setCell_same (i := 6) hbw v1
  · refine Kd.R_mono (Kd.R_move (Kd.R_bound P.rv) ?_) (fun k hk => hk.1)
    rintro k ⟨k1, k2, k3, q, hq, cells, hc⟩
    rcases List.mem_cons.1 hq with rfl | hq
    · exact hkeep hc k3
    · exact absurd hq (by simp [Kd.int, Kd.scalar])
  · refine Kd.R_mono (Kd.R_move (Kd.R_bound P.rb) ?_) (fun k hk => hk.1)
    rintro k ⟨k1, k2, k3, q, hq, cells, hc⟩
    rcases List.mem_cons.1 hq with rfl | hq
    · exact hkeep hc k3
    · exact absurd hq (by simp [Kd.int, Kd.scalar])
  · exact Kd.R_far hR (p := ⟨b, 6, none⟩) (fun k hk => hk.2.1) v1
  · have h1 : Only (fun i => i = b ∨ some i = cv.ownBlock) W2 w1 := ⟨hg.os, hg.tape, hg.output, hg.size, fun i hi hn => hg.block i hi (fun e => hn (Or.inr e))⟩
    exact h1.setCell (a := ⟨b, 6, none⟩) (fun _ => Or.inl rfl) v1

theorem Parts.okmono {w : World} {base : Nat} {ok ok' : Nat → Prop} {b : Nat} {x : Pk} {db : Nat} {v bv cv : Value} (h : Parts w base ok b x db v bv cv) (hok : ∀ k, ok k → ok' k) : Parts w base ok' b x db v bv cv :=
  ⟨h.val, hok _ h.okb, h.leb, hok _ h.okd, h.led, h.hb, h.hd, Kd.R_mono h.rv hok, Kd.R_mono h.rb (fun k hk => ⟨hok k hk.1, hk.2⟩), Kd.R_mono h.rk (fun k hk => ⟨hok k hk.1, hk.2⟩)⟩

set_option maxHeartbeats 800000 in
set_option maxRecDepth 100000 in
theorem append_any {base : Nat} {ok okc : Nat → Prop} {b db q dq : Nat} {v bv cv vq bq cq : Value} (cls tag : Int) (c : Bool) (h0 : 0 ≤ cls) (h1 : cls ≤ 3) (t0 : 0 ≤ tag) (t1 : tag < 268435456) (x y : Pk) (hx0 : y.cls = cls * 64) (hx1 : y.typ = if c then 32 else 0) (hx2 : y.tag = tag)
    (hy : y.data.length < 1099511627776) (hl : x.data.length < 1099511627776) (hk : x.kids.length < 1099511627776) (w : World) (P : Parts w base ok b x db v bv cv) (C : Parts w base okc q y dq vq bq cq) (hd : ∀ k, okc k → ¬ ok k) (hc : ∀ k, okc k → k < w.heap.size) (hbase : base ≤ w.heap.size) (hokb : ∀ k, ok k → base ≤ k) :
    Calls Tryd.prog 40 #[.pointer (some ⟨b, 0, none⟩), .pointer (some ⟨q, 0, none⟩)] w fun e w' => (∃ u, e = .returned u) ∧ Only ok w w' ∧
      ∃ v' cv', Parts w' base (fun k => ok k ∨ okc k ∨ w.heap.size ≤ k) b { x with data := x.data ++ pkBytes cls tag c y.data, kids := x.kids ++ [y] } db v' bv cv' := by
  have hdr : Below w.heap.size w w.drew := (Below.refl _ w).drew
  have HBy := Lib.hid (bytes_any cls tag c h0 h1 t0 t1 y hx0 hx1 hx2 hy w.drew (C.below hdr))
  have HC := Lib.hid (C.below hdr)
  have HP := Lib.hid (P.below hdr)
  have c5 : w.cell? ⟨b, 5, none⟩ = some (.pointer (some ⟨db, 0, none⟩)) := P.cell 5
  have hlen : (pkBytes cls tag c y.data).length ≤ 14 + y.data.length := by
    have hil := identT_le' cls tag c t0 t1
    have hll := lenBytes_le y.data.length (by simp; omega)
    simp only [pkBytes, List.length_append]
    omega
  have HLEN := Lib.hid hlen
  clear hx0 hx1 hx2 P C hlen hdr
  go_enter Tryd.func40, Tryd.ntmps40
  go_wp2_with fail
  go_region_with (first
    | (go_at_call 54
       with_reducible refine HBy.out.mono ?_
       rintro e W1 ⟨r1, rfl, ho1, hB1⟩
       obtain ⟨A1, d1, rfl, hl1, hc1, hne1⟩ := own_row_parts ho1
       have c5' : W1.cell? ⟨b, 5, none⟩ = some (.pointer (some ⟨db, 0, none⟩)) := (HP.out.below hB1).cell 5
       have HW1 := Lib.hid (write_row db _ _ (pkBytes cls tag c y.data) A1 d1 W1 (HP.out.below hB1).buf hc1 (hne1 (HP.out.below hB1).buf.1) (by have := HLEN.out; omega))
       have HP1 := Lib.hid (HP.out.below hB1)
       have HC1 := Lib.hid (HC.out.below hB1)
       have HB1 := Lib.hid hB1
       clear ho1 hB1 hl1 hc1 hne1)
    | (go_at_call 43
       with_reducible refine HW1.out.mono ?_
       rintro e W2 hw
       obtain ⟨rfl, hO2, v2, hP2⟩ := HP1.out.wrote hw (Nat.le_trans hbase HB1.out.size)
       have HO2 := Lib.hid hO2
       have HP2 := Lib.hid hP2
       clear hw hO2 hP2))
  all_goals (
    have hB2 : Below base w W2 := ((Below.refl base w).drew.trans (HB1.out.mono hbase)).trans (HO2.out.below (Nat.le_trans hbase HB1.out.size) hokb)
    have hs2 : w.heap.size ≤ W2.heap.size := hB2.size
    have P2 : Parts W2 base (fun k => ok k ∨ okc k ∨ w.heap.size ≤ k) b _ db v2 bv cv := HP2.out.okmono (fun k hk => hk.elim Or.inl (fun h => Or.inr (Or.inr (Nat.le_trans HB1.out.size h))))
    have hm : kPk.M W2 base okc y [.pointer (some ⟨q, 0, none⟩)] := HC1.out.pk.only HO2.out hd
    have hv2 : ∀ k, v2.ownBlock = some k → ok k ∨ w.heap.size ≤ k := fun k hk => (HP2.out.rv.1 k hk).imp id (fun h => Nat.le_trans HB1.out.size h)
    have hcv : ∀ k, cv.ownBlock = some k → ok k := fun k hk => (HP1.out.rk.1 k hk).1
    have hnew : ∀ k, okc k → ¬ (ok k ∨ w.heap.size ≤ k) := fun k h1 h2 => h2.elim (hd k h1) (fun h => absurd (hc k h1) (by omega))
    have hokp : ∀ k, okc k → ((ok k ∨ okc k ∨ w.heap.size ≤ k) ∧ k ≠ b ∧ k ≠ db ∧ some k ≠ v2.ownBlock) ∧ some k ≠ cv.ownBlock := fun k h1 =>
      ⟨⟨Or.inr (Or.inl h1), fun e => hd k h1 (e ▸ HP1.out.okb), fun e => hd k h1 (e ▸ HP1.out.okd), fun e => hnew k h1 (hv2 k e.symm)⟩, fun e => hd k h1 (hcv k e.symm)⟩
    have hfresh : ∀ k, W2.heap.size ≤ k → (ok k ∨ okc k ∨ w.heap.size ≤ k) ∧ k ≠ b ∧ k ≠ db ∧ some k ≠ v2.ownBlock := fun k h1 => by
      obtain ⟨lr, hd2⟩ := P2.hd
      have e1 := blk_lt P2.hb
      have e2 := blk_lt hd2
      exact ⟨Or.inr (Or.inr (by omega)), by omega, by omega, fun e => by have := own_lt (int_own P2.rv) k e.symm; omega⟩
    have c6 : W2.cell? ⟨b, 6, none⟩ = some cv := P2.cell 6
    have u6 : ∀ o, (W2.alloc o).cell? ⟨b, 6, none⟩ = some cv := fun o => blk_cell (blk_alloc P2.hb o) 6
    have HP3 := Lib.hid P2
    have HM := Lib.hid hm
    have HK := Lib.hid hokp
    have HF := Lib.hid hfresh
    have HB2 := Lib.hid hB2
    have hO : Only ok w W2 := ((Only.of_below ok (Below.refl _ w).drew).trans (Only.of_below ok HB1.out) (fun _ _ h => h)).trans HO2.out (fun _ _ h => h)
    have HO3 := Lib.hid hO
    have HS : Hid (∀ i, i = b ∨ some i = cv.ownBlock → ok i) := Lib.hid (fun i h => h.elim (fun e => e ▸ HP1.out.okb) (fun e => hcv i e.symm))
    clear hO hB2 P2 hm hokp hfresh hnew hcv hv2 HB1 HC1 HP1 HW1 HP2
    go_wp2_with (at_builtin
                 refine Kd.R_append kPk (w0 := w) (W := W2) base rfl (.tmp 15) (.tmp 17) 71 TP (.pointer none) 8 rfl Tryd.underlying71 infoP rfl (by decide) (by decide) cv x.kids y _ _ okc rfl rfl HM.out HK.out HF.out HP3.out.rk HB2.out (Nat.le_trans hbase HB2.out.size) (by omega) ?_
                 intro v1 w1 hR1 hb1 hg1 hat1
                 have hne : some b ≠ cv.ownBlock := fun e => (HP3.out.rk.1 b e.symm).2.1 rfl
                 have x6 : w1.cell? ⟨b, 6, none⟩ = some cv := blk_cell (blk_grown HP3.out.hb hg1 hne) 6
                 have xf : w1.frozen? ⟨b, 6, none⟩ = false := blk_frozen (blk_grown HP3.out.hb hg1 hne) 6
                 have he := app_end HP3.out hR1 hg1
                 obtain ⟨Aq, cq', hvq, _, _⟩ := Kd.R_reads hR1
                 subst hvq
                 have e1 : (x.kids ++ [y]).length = x.kids.length + 1 := by simp
                 simp only [e1] at he
                 have HE := Lib.hid he
                 clear e1 he hR1 hb1 hg1 hat1 hne)
    refine bodyPost_end (results_none rfl _ _ _) rfl ⟨⟨_, rfl⟩, HO3.out.trans HE.out.2 (fun i _ h => HS.out i h), _, _, HE.out.1⟩)
end Go.Proofs.YtejbpbdlolehnaaDoor.Ber
namespace Go.Proofs.YtejbpbdlolehnaaDoor.Ber
open Go.RowKit Go.Proofs.YtejbpbdlolehnaaDoorW.PrintWords Go.Proofs.YtejbpbdlolehnaaDoorW.PrintLast Go.Proofs.YtejbpbdlolehnaaDoor.Buf Go.Proofs.YtejbpbdlolehnaaDoor.Pk
set_option linter.unusedVariables false
set_option linter.unusedSimpArgs false

theorem setRow_other_cell {w : World} {g : Nat} {cs : Array Value} {a : Addr} (h : a.block ≠ g) : (w.setRow g cs).cell? a = w.cell? a := cell_setRow_other w g cs a h
theorem Only.setRow {S : Nat → Prop} {w w' : World} (h : Only S w w') {g : Nat} (hg : g < w.heap.size → S g) (cs : Array Value) : Only S w (w'.setRow g cs) :=
  ⟨h.os, h.tape, h.output, by rw [setRow_size]; exact h.size, fun i hi hn => by rw [setRow_other _ _ _ _ (fun e => hn (by rw [e]; exact hg (by rw [← e]; exact hi)))]; exact h.block i hi hn⟩
theorem C_block {U W : World} {a : Addr} {n : Nat} {xs : List Int} (h : B8.C W (some a) n xs) (hu : U.heap[a.block]? = W.heap[a.block]?) : B8.C U (some a) n xs := by
  obtain ⟨hl, hm, hf⟩ := h
  refine ⟨hl, hm, fun hp => ?_⟩
  obtain ⟨ad, hA, hr⟩ := hf hp
  injection hA with hA
  subst hA
  refine ⟨a, rfl, fun j p hj => ?_⟩
  obtain ⟨cs, hlen, hK, hc⟩ := hr j p hj
  exact ⟨cs, hlen, hK, fun i u hu' => (World.cell?_of_block (w := W) (by rw [Lib.block_add]; exact hu)).trans (hc i u hu')⟩
/-- a *bytes.Reader in block g: i of its bytes are read -/
structure AtRd (W : World) (g : Nat) (A : Option Addr) (c i : Nat) (data : List Int) : Prop where
  hb : ∃ pr, W.heap[g]? = some (.cells #[.slice A data.length c, .int .i64 i, .int .i64 pr] 59 (0, 0))
  rd : B8.C W A data.length data
  le : i ≤ data.length
  cap : data.length ≤ c
  big : c ≤ 9223372036854775807
  far : ∀ a, A = some a → 1 ≤ data.length → a.block ≠ g
/-- bytes lie in a row from a place on; nothing but S and the row has turned -/
def Took (S : Nat → Prop) (pb po : Nat) (cur : Array Value) (xs : List Int) (W w' : World) : Prop :=
  w'.heap[pb]? = some (.cells (cur.toList.take po ++ (nums .u8 xs ++ cur.toList.drop (po + xs.length))).toArray 5 (0, 0)) ∧ Only (fun k => S k ∨ k = pb) W w'
theorem nums_drop (l : List Int) (i : Nat) : nums .u8 (l.drop i) = (nums .u8 l).drop i := by simp [nums, List.map_drop]
theorem nums_take (l : List Int) (i : Nat) : nums .u8 (l.take i) = (nums .u8 l).take i := by simp [nums, List.map_take]
theorem info8 : (Tryd.prog.info? 5).map (·.size) = some 1 := by
  obtain ⟨i0, hi, -, hz1, -⟩ := info_parts info_u8
  rw [hi]; simp [hz1]
set_option maxHeartbeats 3200000 in
set_option maxRecDepth 100000 in
theorem reader_some {W : World} {g : Nat} {A : Option Addr} {c i : Nat} {data : List Int} (h : AtRd W g A c i data) (hi : i < data.length) (pb po m pc : Nat) (cur : Array Value) (hp : W.heap[pb]? = some (.cells cur 5 (0, 0))) (hf : po + m ≤ cur.size) (hg : pb ≠ g) (hA : ∀ a, A = some a → 1 ≤ data.length → a.block ≠ pb) :
    Calls Tryd.prog 106 #[.pointer (some ⟨g, 0, none⟩), .slice (some ⟨pb, po, none⟩) m pc] W fun e w' => e = .returned (.tuple #[.int .i64 (Nat.min (data.length - i) m : Nat), .nilIface]) ∧ AtRd w' g A c (i + Nat.min (data.length - i) m) data ∧ Took (fun k => k = g) pb po cur ((data.drop i).take (Nat.min (data.length - i) m)) W w' := by
  obtain ⟨⟨pr, hb⟩, hrd, hle, hcap, hbig, hfar⟩ := h
  obtain ⟨a, rfl⟩ : ∃ a, A = some a := by
    obtain ⟨ad, hA, _⟩ := Kd.at_int hrd (i : Int) (by omega) (by omega)
    exact ⟨ad, hA⟩
  have hfa := hfar a rfl (by omega)
  have hpa := hA a rfl (by omega)
  obtain ⟨k, hk⟩ : ∃ k, k = Nat.min (data.length - i) m := ⟨_, rfl⟩
  have hkl : k ≤ data.length - i := by rw [hk]; exact Nat.min_le_left _ _
  have hkm : k ≤ m := by rw [hk]; exact Nat.min_le_right _ _
  have hxs : ((data.drop i).take k).length = k := by rw [List.length_take, List.length_drop]; omega
  have hsrc : ∀ U : World, (∀ b, b ≠ g → U.heap[b]? = W.heap[b]?) → ∀ j u, (nums .u8 ((data.drop i).take k))[j]? = some u → U.cell? ((a.add i).add j) = some u := fun U hU j u hj => by
    have hjk : j < k := by
      have := (List.getElem?_eq_some_iff.1 hj).1
      simpa [nums_length, hxs] using this
    obtain ⟨ad, hA, hc⟩ := Kd.at_int hrd ((i + j : Nat) : Int) (by omega) (by omega)
    injection hA with hA
    subst hA
    rw [Int.toNat_natCast] at hc
    have e : (a.add i).add j = a.add (i + j) := by
      unfold Addr.add
      by_cases h1 : i = 0 <;> by_cases h2 : j = 0 <;> simp [h1, h2, Nat.add_assoc]
    have e2 : u = .int .u8 (rd data ((i + j : Nat) : Int)) := by
      rw [nums_take, nums_drop, List.getElem?_take_of_lt hjk, List.getElem?_drop, nums, List.getElem?_map] at hj
      rw [rd, Int.toNat_natCast, List.getD_eq_getElem?_getD]
      cases hd : data[i + j]? with
      | none => rw [hd] at hj; simp at hj
      | some z => rw [hd] at hj; simpa using hj.symm
    rw [e, e2, World.cell?_of_block (w := W) (by rw [Lib.block_add]; exact hU _ hfa)]
    exact hc
  have hcp : ∀ U : World, (∀ b, b ≠ g → U.heap[b]? = W.heap[b]?) → (Builtin.copy_ #[22, 22] 3 #[.slice (some ⟨pb, po, none⟩) m pc, .slice (some (a.add i)) (data.length - i) (c - i)]).run Tryd.prog U = .ok (goInt k) (U.setRow pb (cur.toList.take po ++ (nums .u8 ((data.drop i).take k) ++ cur.toList.drop (po + ((data.drop i).take k).length))).toArray) := fun U hU => by
    have := run_copy_row (P := Tryd.prog) U 22 22 3 5 pb po m pc (a.add i) (data.length - i) (c - i) cur 5 (nums .u8 ((data.drop i).take k)) Tryd.underlying22 info8 ((hU pb hg).trans hp) (by rw [nums_length, hxs, hk]) (hsrc U hU) (by rw [nums_length, hxs]; omega) (nums_one _)
    rw [nums_length, hxs, List.append_assoc] at this
    rw [hxs]
    exact this
  obtain ⟨row, hrow⟩ : ∃ row, row = (cur.toList.take po ++ (nums .u8 ((data.drop i).take k) ++ cur.toList.drop (po + ((data.drop i).take k).length))).toArray := ⟨_, rfl⟩
  rw [← hrow] at hcp
  have HTK : Hid (∀ w', w'.heap[pb]? = some (.cells row 5 (0, 0)) → Only (fun k => k = g ∨ k = pb) W w' → Took (fun k => k = g) pb po cur ((data.drop i).take k) W w') := Lib.hid (fun w' h1 h2 => ⟨by rw [← hrow]; exact h1, h2⟩)
  have HRD : Hid (∀ w' : World, (∀ b, b ≠ g → b ≠ pb → w'.heap[b]? = W.heap[b]?) → B8.C w' (some a) data.length data) := Lib.hid (fun w' hw => C_block hrd (hw _ hfa hpa))
  have HCP := Lib.hid hcp
  have HP := Lib.hid hp
  have HB := Lib.hid hb
  have HNE : Hid (g ≠ pb) := Lib.hid (fun e => hg e.symm)
  have HBG := Lib.hid (And.intro hbig (And.intro hcap hfar))
  have HK := Lib.hid (And.intro hkl hk)
  have e1 : decide ((data.length : Int) ≤ (i : Int)) = false := decide_eq_false (by omega)
  have e2 : decide (data.length ≤ i) = false := decide_eq_false (by omega)
  have c0 : W.drew.cell? ⟨g, 0, none⟩ = some (.slice (some a) data.length c) := blk_cell hb 0
  have c1 : W.drew.cell? ⟨g, 1, none⟩ = some (.int .i64 i) := blk_cell hb 1
  have c2 : W.drew.cell? ⟨g, 2, none⟩ = some (.int .i64 pr) := blk_cell hb 2
  have f2 : W.drew.frozen? ⟨g, 2, none⟩ = false := blk_frozen hb 2
  have hci : ¬ c = i := by omega
  have hki : (i : Int) ≤ 9223372036854775807 := by omega
  rw [← hk]
  clear hcp hp hb hrd hfar hfa hpa hA hsrc hrow hxs hg hbig hk hkl hkm
  go_enter Tryd.func106, Tryd.ntmps106
  go_wp2_with fail
  refine start_ (n := 10) (S := fun w' => w'.cell? ⟨g, 1, none⟩ = some (.int .i64 i) ∧ w'.cell? ⟨g, 0, none⟩ = some (.slice (some a) data.length c)) (ds := []) #[nN,nN,nN,nN,nN,nN,nN,nN,nN,nN] (by kernel_rfl) rfl rfl ⟨c1, c0⟩ (fun hHeld => ?_)
  refine pure_ (i := 0) (N := some 6) (v := ?_) (a' := ?_) #[yY,nN,nN,nN,nN,nN,nN,nN,nN,nN] rfl rfl (by kernel_rfl) (fun _ _ _ h => h) (Or.inl ⟨by rfl, ?_⟩) ?_ ?_
  rotate_left
  · intro w'
    go_simp
    with_reducible rfl
  rotate_left
  · simp only [Act.put, List.setIfInBounds_toArray, List.set_cons_zero, List.set_cons_succ, i64_w, i32_w]
    rfl
  refine pure_ (i := 1) (N := some 7) (v := ?_) (a' := ?_) #[yY,yY,nN,nN,nN,nN,nN,nN,nN,nN] rfl rfl (by kernel_rfl) (fun _ _ _ h => h) (Or.inl ⟨by rfl, ?_⟩) ?_ ?_
  rotate_left
  · intro w'
    go_simp
    with_reducible rfl
  rotate_left
  · simp only [Act.put, List.setIfInBounds_toArray, List.set_cons_zero, List.set_cons_succ, i64_w, i32_w]
    rfl
  refine pure_ (i := 2) (N := some 8) (v := ?_) (a' := ?_) #[yY,yY,yY,nN,nN,nN,nN,nN,nN,nN] rfl rfl (by kernel_rfl) (fun _ _ _ h => h) (Or.inl ⟨by rfl, ?_⟩) ?_ ?_
  rotate_left
  · intro w'
    go_simp
    with_reducible rfl
  rotate_left
  · simp only [Act.put, List.setIfInBounds_toArray, List.set_cons_zero, List.set_cons_succ, i64_w, i32_w]
    rfl
  refine pure_ (i := 4) (N := some 10) (v := ?_) (a' := ?_) #[yY,yY,yY,nN,yY,nN,nN,nN,nN,nN] rfl rfl (by kernel_rfl) (fun _ _ _ h => h) (Or.inl ⟨by rfl, ?_⟩) ?_ ?_
  rotate_left
  · intro w'
    go_simp
    with_reducible rfl
  rotate_left
  · simp only [Act.put, List.setIfInBounds_toArray, List.set_cons_zero, List.set_cons_succ, i64_w, i32_w]
    rfl
  refine pure_ (i := 5) (N := some 11) (v := ?_) (a' := ?_) #[yY,yY,yY,nN,yY,yY,nN,nN,nN,nN] rfl rfl (by kernel_rfl) (fun _ _ _ h => h) (Or.inl ⟨by rfl, ?_⟩) ?_ ?_
  rotate_left
  · intro w'
    go_simp
    with_reducible rfl
  rotate_left
  · simp only [Act.put, List.setIfInBounds_toArray, List.set_cons_zero, List.set_cons_succ, i64_w, i32_w]
    rfl
  refine pure_ (i := 6) (N := some 12) (v := ?_) (a' := ?_) #[yY,yY,yY,nN,yY,yY,yY,nN,nN,nN] rfl rfl (by kernel_rfl) (fun _ _ _ h => h) (Or.inl ⟨by rfl, ?_⟩) ?_ ?_
  rotate_left
  · intro w'
    go_simp
    with_reducible rfl
  rotate_left
  · simp only [Act.put, List.setIfInBounds_toArray, List.set_cons_zero, List.set_cons_succ, i64_w, i32_w]
    rfl
  refine take_ (i := 3) (N := some 9) (v := ?_) (a' := ?_) #[yY,yY,yY,yY,yY,yY,yY,nN,nN,nN] rfl rfl (by kernel_rfl) (fun _ _ _ h => h) (Or.inl ⟨by rfl, ?_⟩) hHeld ?_ ?_
  rotate_left
  · rintro w' ⟨s0, s1⟩
    go_simp
    with_reducible rfl
  rotate_left
  · simp only [Act.put, List.setIfInBounds_toArray, List.set_cons_zero, List.set_cons_succ, i64_w, i32_w]
    rfl
  refine take_ (i := 7) (N := some 13) (v := ?_) (a' := ?_) #[yY,yY,yY,yY,yY,yY,yY,yY,nN,nN] rfl rfl (by kernel_rfl) (fun _ _ _ h => h) (Or.inl ⟨by rfl, ?_⟩) hHeld ?_ ?_
  rotate_left
  · rintro w' ⟨s0, s1⟩
    go_simp
    with_reducible rfl
  rotate_left
  · simp only [Act.put, List.setIfInBounds_toArray, List.set_cons_zero, List.set_cons_succ, i64_w, i32_w]
    rfl
  refine pure_ (i := 8) (N := some 14) (v := ?_) (a' := ?_) #[yY,yY,yY,yY,yY,yY,yY,yY,yY,nN] rfl rfl (by kernel_rfl) (fun _ _ _ h => h) (Or.inl ⟨by rfl, ?_⟩) ?_ ?_
  rotate_left
  · intro w'
    go_simp
    with_reducible rfl
  rotate_left
  · simp only [Act.put, List.setIfInBounds_toArray, List.set_cons_zero, List.set_cons_succ, i64_w, i32_w]
    rfl
  refine pure_ (i := 9) (N := some 15) (v := ?_) (a' := ?_) #[yY,yY,yY,yY,yY,yY,yY,yY,yY,yY] rfl rfl (by kernel_rfl) (fun _ _ _ h => h) (Or.inl ⟨by rfl, ?_⟩) ?_ ?_
  rotate_left
  · intro w'
    go_simp
    with_reducible rfl
  rotate_left
  · simp only [Act.put, List.setIfInBounds_toArray, List.set_cons_zero, List.set_cons_succ, i64_w, i32_w]
    rfl
  refine done_ (by kernel_rfl) ?_
  go_upto_region 4 with fail
  obtain ⟨W2, hW2⟩ : ∃ W2, W2 = (W.setCell ⟨g, 2, none⟩ (.int .i64 (-1))).drew := ⟨_, rfl⟩
  rw [← hW2]
  have hG2 : W2.heap[g]? = some (.cells #[.slice (some a) data.length c, .int .i64 i, .int .i64 (-1)] 59 (0, 0)) := by rw [hW2]; exact blk_set HB.out 2 _
  have hst : ∀ b, b ≠ g → W2.heap[b]? = W.heap[b]? := fun b hb => by rw [hW2]; exact Below.heap_setCell W ⟨g, 2, none⟩ _ b hb
  have HO2 : Hid (Only (fun b => b = g) W W2.drew) := Lib.hid (by rw [hW2]; exact ((Only.refl (fun b => b = g) W).setCell (a := ⟨g, 2, none⟩) (fun _ => rfl) _).drew.drew)
  have hcp := HCP.out W2.drew hst
  have d0 : W2.drew.cell? ⟨g, 0, none⟩ = some (.slice (some a) data.length c) := blk_cell hG2 0
  have d1 : W2.drew.cell? ⟨g, 1, none⟩ = some (.int .i64 i) := blk_cell hG2 1
  have HP2 : Hid (W2.drew.heap[pb]? = some (.cells cur 5 (0, 0))) := Lib.hid ((hst pb (fun e => HNE.out e.symm)).trans HP.out)
  have HG2 : Hid (W2.drew.heap[g]? = some (.cells #[.slice (some a) data.length c, .int .i64 i, .int .i64 (-1)] 59 (0, 0))) := Lib.hid hG2
  have HST : Hid (∀ b, b ≠ g → W2.drew.heap[b]? = W.heap[b]?) := Lib.hid hst
  clear hW2 hG2 hst c0 c1 c2 f2
  refine start_ (n := 12) (S := fun w' => w'.cell? ⟨g, 0, none⟩ = some (.slice (some a) data.length c) ∧ w'.cell? ⟨g, 1, none⟩ = some (.int .i64 i)) (ds := []) #[nN,nN,nN,nN,nN,nN,nN,nN,nN,nN,nN,nN] (by kernel_rfl) rfl rfl ⟨d0, d1⟩ (fun hHeld => ?_)
  obtain ⟨W3, hW3⟩ : ∃ X, X = W2.drew := ⟨_, rfl⟩
  rw [← hW3] at d0 d1 hcp HP2 HG2 HO2 HST hHeld ⊢
  clear hW3
  refine pure_ (i := 0) (N := some 20) (v := ?_) (a' := ?_) #[yY,nN,nN,nN,nN,nN,nN,nN,nN,nN,nN,nN] rfl rfl (by kernel_rfl) (fun _ _ _ h => h) (Or.inl ⟨by rfl, ?_⟩) ?_ ?_
  rotate_left
  · intro w'
    go_simp
    with_reducible rfl
  rotate_left
  · simp only [Act.put, List.setIfInBounds_toArray, List.set_cons_zero, List.set_cons_succ, i64_w, i32_w]
    rfl
  refine pure_ (i := 1) (N := some 21) (v := ?_) (a' := ?_) #[yY,yY,nN,nN,nN,nN,nN,nN,nN,nN,nN,nN] rfl rfl (by kernel_rfl) (fun _ _ _ h => h) (Or.inl ⟨by rfl, ?_⟩) ?_ ?_
  rotate_left
  · intro w'
    go_simp
    with_reducible rfl
  rotate_left
  · simp only [Act.put, List.setIfInBounds_toArray, List.set_cons_zero, List.set_cons_succ, i64_w, i32_w]
    rfl
  refine pure_ (i := 2) (N := some 22) (v := ?_) (a' := ?_) #[yY,yY,yY,nN,nN,nN,nN,nN,nN,nN,nN,nN] rfl rfl (by kernel_rfl) (fun _ _ _ h => h) (Or.inl ⟨by rfl, ?_⟩) ?_ ?_
  rotate_left
  · intro w'
    go_simp
    with_reducible rfl
  rotate_left
  · simp only [Act.put, List.setIfInBounds_toArray, List.set_cons_zero, List.set_cons_succ, i64_w, i32_w]
    rfl
  refine pure_ (i := 3) (N := some 23) (v := ?_) (a' := ?_) #[yY,yY,yY,yY,nN,nN,nN,nN,nN,nN,nN,nN] rfl rfl (by kernel_rfl) (fun _ _ _ h => h) (Or.inl ⟨by rfl, ?_⟩) ?_ ?_
  rotate_left
  · intro w'
    go_simp
    with_reducible rfl
  rotate_left
  · simp only [Act.put, List.setIfInBounds_toArray, List.set_cons_zero, List.set_cons_succ, i64_w, i32_w]
    rfl
  refine pure_ (i := 5) (N := some 25) (v := ?_) (a' := ?_) #[yY,yY,yY,yY,nN,yY,nN,nN,nN,nN,nN,nN] rfl rfl (by kernel_rfl) (fun _ _ _ h => h) (Or.inl ⟨by rfl, ?_⟩) ?_ ?_
  rotate_left
  · intro w'
    go_simp
    with_reducible rfl
  rotate_left
  · simp only [Act.put, List.setIfInBounds_toArray, List.set_cons_zero, List.set_cons_succ, i64_w, i32_w]
    rfl
  refine pure_ (i := 6) (N := some 26) (v := ?_) (a' := ?_) #[yY,yY,yY,yY,nN,yY,yY,nN,nN,nN,nN,nN] rfl rfl (by kernel_rfl) (fun _ _ _ h => h) (Or.inl ⟨by rfl, ?_⟩) ?_ ?_
  rotate_left
  · intro w'
    go_simp
    with_reducible rfl
  rotate_left
  · simp only [Act.put, List.setIfInBounds_toArray, List.set_cons_zero, List.set_cons_succ, i64_w, i32_w]
    rfl
  refine pure_ (i := 7) (N := some 27) (v := ?_) (a' := ?_) #[yY,yY,yY,yY,nN,yY,yY,yY,nN,nN,nN,nN] rfl rfl (by kernel_rfl) (fun _ _ _ h => h) (Or.inl ⟨by rfl, ?_⟩) ?_ ?_
  rotate_left
  · intro w'
    go_simp
    with_reducible rfl
  rotate_left
  · simp only [Act.put, List.setIfInBounds_toArray, List.set_cons_zero, List.set_cons_succ, i64_w, i32_w]
    rfl
  refine take_ (i := 4) (N := some 24) (v := ?_) (a' := ?_) #[yY,yY,yY,yY,yY,yY,yY,yY,nN,nN,nN,nN] rfl rfl (by kernel_rfl) (fun _ _ _ h => h) (Or.inl ⟨by rfl, ?_⟩) hHeld ?_ ?_
  rotate_left
  · rintro w' ⟨s0, s1⟩
    go_simp
    with_reducible rfl
  rotate_left
  · simp only [Act.put, List.setIfInBounds_toArray, List.set_cons_zero, List.set_cons_succ, i64_w, i32_w]
    rfl
  refine take_ (i := 8) (N := some 28) (v := ?_) (a' := ?_) #[yY,yY,yY,yY,yY,yY,yY,yY,yY,nN,nN,nN] rfl rfl (by kernel_rfl) (fun _ _ _ h => h) (Or.inl ⟨by rfl, ?_⟩) hHeld ?_ ?_
  rotate_left
  · rintro w' ⟨s0, s1⟩
    go_simp
    with_reducible rfl
  rotate_left
  · simp only [Act.put, List.setIfInBounds_toArray, List.set_cons_zero, List.set_cons_succ, i64_w, i32_w]
    rfl
  refine pure_ (i := 9) (N := some 29) (v := ?_) (a' := ?_) #[yY,yY,yY,yY,yY,yY,yY,yY,yY,yY,nN,nN] rfl rfl (by kernel_rfl) (fun _ _ _ h => h) (Or.inl ⟨by rfl, ?_⟩) ?_ ?_
  rotate_left
  · intro w'
    go_simp
    with_reducible rfl
  rotate_left
  · simp only [Act.put, List.setIfInBounds_toArray, List.set_cons_zero, List.set_cons_succ, i64_w, i32_w]
    rfl
  refine one_ (i := 10) (N := some 30) #[yY,yY,yY,yY,yY,yY,yY,yY,yY,yY,yY,nN] rfl rfl (by kernel_rfl) (by decide) (fun K hK => ?_)
  refine value_ (w1 := ?_) (v := ?_) (by rfl) rfl ?_ ?_
  rotate_left 2
  · go_simp
    constructor
    · rfl
    · rfl
  refine hK.out _ _ ⟨(setRow_other_cell HNE.out).trans d0, (setRow_other_cell HNE.out).trans d1⟩ (fun hHeld => ?_)
  clear hK K
  refine norm_ (a' := ?_) ?_ ?_
  rotate_left
  · show Act.put _ (some 30) _ = _
    simp only [Act.put, List.setIfInBounds_toArray, List.set_cons_zero, List.set_cons_succ, i64_w, i32_w]
    rfl
  refine pure_ (i := 11) (N := some 4) (v := ?_) (a' := ?_) #[yY,yY,yY,yY,yY,yY,yY,yY,yY,yY,yY,yY] rfl rfl (by kernel_rfl) (fun _ _ _ h => h) (Or.inl ⟨by rfl, ?_⟩) ?_ ?_
  rotate_left
  · intro w'
    go_simp
    with_reducible rfl
  rotate_left
  · simp only [Act.put, List.setIfInBounds_toArray, List.set_cons_zero, List.set_cons_succ, i64_w, i32_w]
    rfl
  refine done_ (by kernel_rfl) ?_
  have HR4 := Lib.hid (setRow_heap W3 pb cur row 5 (0, 0) HP2.out)
  have HG4 : Hid ((W3.setRow pb row).heap[g]? = some (.cells #[.slice (some a) data.length c, .int .i64 i, .int .i64 (-1)] 59 (0, 0))) := Lib.hid ((setRow_other W3 pb g row HNE.out).trans HG2.out)
  have HO4 : Hid (Only (fun b => b = g ∨ b = pb) W (W3.setRow pb row)) := Lib.hid (Only.setRow (HO2.out.mono (fun _ _ h => .inl h)) (fun _ => .inr rfl) row)
  have HS4 : Hid (∀ b, b ≠ g → b ≠ pb → (W3.setRow pb row).heap[b]? = W.heap[b]?) := Lib.hid (fun b h1 h2 => (setRow_other W3 pb b row h2).trans (HST.out b h1))
  obtain ⟨W4, hW4⟩ : ∃ W4, W4 = W3.setRow pb row := ⟨_, rfl⟩
  rw [← hW4] at HR4 HG4 HO4 HS4 ⊢
  have g1 : W4.cell? ⟨g, 1, none⟩ = some (.int .i64 i) := blk_cell HG4.out 1
  have gf1 : W4.frozen? ⟨g, 1, none⟩ = false := blk_frozen HG4.out 1
  have hks : (i : Int) + (k : Int) ≤ 9223372036854775807 := by have h1 := HBG.out.1; have h2 := HBG.out.2.1; have h3 := HK.out.1; omega
  have hk0 : (0 : Int) ≤ (k : Int) := by omega
  clear hW4 d0 d1 hcp HP2 HG2 HO2 HST HP HCP hHeld
  go_wp2
  go_ret2
  exact ⟨rfl, ⟨⟨-1, blk_set HG4.out 1 (.int .i64 ((i + k : Nat) : Int))⟩, HRD.out _ (fun b h1 h2 => (Below.heap_setCell W4 ⟨g, 1, none⟩ _ b h1).trans (HS4.out b h1 h2)), by have := HK.out.1; omega, HBG.out.2.1, HBG.out.1, HBG.out.2.2⟩,
    HTK.out _ ((Below.heap_setCell W4 ⟨g, 1, none⟩ _ pb (fun e => HNE.out e.symm)).trans HR4.out) (HO4.out.setCell (a := ⟨g, 1, none⟩) (fun _ => .inl rfl) _)⟩
set_option maxHeartbeats 3200000 in
set_option maxRecDepth 100000 in
theorem reader_none {W : World} {g : Nat} {A : Option Addr} {c i : Nat} {data : List Int} (h : AtRd W g A c i data) (hi : data.length ≤ i) (p v : Value) (he : W.cell? ⟨0, 0, none⟩ = some v) :
    Calls Tryd.prog 106 #[.pointer (some ⟨g, 0, none⟩), p] W fun e w' => e = .returned (.tuple #[.int .i64 0, v]) ∧ w' = W.drew.drew := by
  obtain ⟨⟨pr, hb⟩, hrd, hle, hcap, hbig, hfar⟩ := h
  have e1 : decide ((data.length : Int) ≤ (i : Int)) = true := decide_eq_true (by omega)
  have e2 : decide (data.length ≤ i) = true := decide_eq_true hi
  have c0 : W.drew.cell? ⟨g, 0, none⟩ = some (.slice A data.length c) := blk_cell hb 0
  have c1 : W.drew.cell? ⟨g, 1, none⟩ = some (.int .i64 i) := blk_cell hb 1
  replace he : W.drew.drew.cell? ⟨0, 0, none⟩ = some v := he
  clear hb hrd hle hcap hbig hfar hi
  go_enter Tryd.func106, Tryd.ntmps106
  go_wp2_with fail
  refine start_ (n := 10) (S := fun w' => w'.cell? ⟨g, 1, none⟩ = some (.int .i64 i) ∧ w'.cell? ⟨g, 0, none⟩ = some (.slice A data.length c)) (ds := []) #[nN,nN,nN,nN,nN,nN,nN,nN,nN,nN] (by kernel_rfl) rfl rfl ⟨c1, c0⟩ (fun hHeld => ?_)
  refine pure_ (i := 0) (N := some 6) (v := ?_) (a' := ?_) #[yY,nN,nN,nN,nN,nN,nN,nN,nN,nN] rfl rfl (by kernel_rfl) (fun _ _ _ h => h) (Or.inl ⟨by rfl, ?_⟩) ?_ ?_
  rotate_left
  · intro w'
    go_simp
    with_reducible rfl
  rotate_left
  · simp only [Act.put, List.setIfInBounds_toArray, List.set_cons_zero, List.set_cons_succ, i64_w, i32_w]
    rfl
  refine pure_ (i := 1) (N := some 7) (v := ?_) (a' := ?_) #[yY,yY,nN,nN,nN,nN,nN,nN,nN,nN] rfl rfl (by kernel_rfl) (fun _ _ _ h => h) (Or.inl ⟨by rfl, ?_⟩) ?_ ?_
  rotate_left
  · intro w'
    go_simp
    with_reducible rfl
  rotate_left
  · simp only [Act.put, List.setIfInBounds_toArray, List.set_cons_zero, List.set_cons_succ, i64_w, i32_w]
    rfl
  refine pure_ (i := 2) (N := some 8) (v := ?_) (a' := ?_) #[yY,yY,yY,nN,nN,nN,nN,nN,nN,nN] rfl rfl (by kernel_rfl) (fun _ _ _ h => h) (Or.inl ⟨by rfl, ?_⟩) ?_ ?_
  rotate_left
  · intro w'
    go_simp
    with_reducible rfl
  rotate_left
  · simp only [Act.put, List.setIfInBounds_toArray, List.set_cons_zero, List.set_cons_succ, i64_w, i32_w]
    rfl
  refine pure_ (i := 4) (N := some 10) (v := ?_) (a' := ?_) #[yY,yY,yY,nN,yY,nN,nN,nN,nN,nN] rfl rfl (by kernel_rfl) (fun _ _ _ h => h) (Or.inl ⟨by rfl, ?_⟩) ?_ ?_
  rotate_left
  · intro w'
    go_simp
    with_reducible rfl
  rotate_left
  · simp only [Act.put, List.setIfInBounds_toArray, List.set_cons_zero, List.set_cons_succ, i64_w, i32_w]
    rfl
  refine pure_ (i := 5) (N := some 11) (v := ?_) (a' := ?_) #[yY,yY,yY,nN,yY,yY,nN,nN,nN,nN] rfl rfl (by kernel_rfl) (fun _ _ _ h => h) (Or.inl ⟨by rfl, ?_⟩) ?_ ?_
  rotate_left
  · intro w'
    go_simp
    with_reducible rfl
  rotate_left
  · simp only [Act.put, List.setIfInBounds_toArray, List.set_cons_zero, List.set_cons_succ, i64_w, i32_w]
    rfl
  refine pure_ (i := 6) (N := some 12) (v := ?_) (a' := ?_) #[yY,yY,yY,nN,yY,yY,yY,nN,nN,nN] rfl rfl (by kernel_rfl) (fun _ _ _ h => h) (Or.inl ⟨by rfl, ?_⟩) ?_ ?_
  rotate_left
  · intro w'
    go_simp
    with_reducible rfl
  rotate_left
  · simp only [Act.put, List.setIfInBounds_toArray, List.set_cons_zero, List.set_cons_succ, i64_w, i32_w]
    rfl
  refine take_ (i := 3) (N := some 9) (v := ?_) (a' := ?_) #[yY,yY,yY,yY,yY,yY,yY,nN,nN,nN] rfl rfl (by kernel_rfl) (fun _ _ _ h => h) (Or.inl ⟨by rfl, ?_⟩) hHeld ?_ ?_
  rotate_left
  · rintro w' ⟨s0, s1⟩
    go_simp
    with_reducible rfl
  rotate_left
  · simp only [Act.put, List.setIfInBounds_toArray, List.set_cons_zero, List.set_cons_succ, i64_w, i32_w]
    rfl
  refine take_ (i := 7) (N := some 13) (v := ?_) (a' := ?_) #[yY,yY,yY,yY,yY,yY,yY,yY,nN,nN] rfl rfl (by kernel_rfl) (fun _ _ _ h => h) (Or.inl ⟨by rfl, ?_⟩) hHeld ?_ ?_
  rotate_left
  · rintro w' ⟨s0, s1⟩
    go_simp
    with_reducible rfl
  rotate_left
  · simp only [Act.put, List.setIfInBounds_toArray, List.set_cons_zero, List.set_cons_succ, i64_w, i32_w]
    rfl
  refine pure_ (i := 8) (N := some 14) (v := ?_) (a' := ?_) #[yY,yY,yY,yY,yY,yY,yY,yY,yY,nN] rfl rfl (by kernel_rfl) (fun _ _ _ h => h) (Or.inl ⟨by rfl, ?_⟩) ?_ ?_
  rotate_left
  · intro w'
    go_simp
    with_reducible rfl
  rotate_left
  · simp only [Act.put, List.setIfInBounds_toArray, List.set_cons_zero, List.set_cons_succ, i64_w, i32_w]
    rfl
  refine pure_ (i := 9) (N := some 15) (v := ?_) (a' := ?_) #[yY,yY,yY,yY,yY,yY,yY,yY,yY,yY] rfl rfl (by kernel_rfl) (fun _ _ _ h => h) (Or.inl ⟨by rfl, ?_⟩) ?_ ?_
  rotate_left
  · intro w'
    go_simp
    with_reducible rfl
  rotate_left
  · simp only [Act.put, List.setIfInBounds_toArray, List.set_cons_zero, List.set_cons_succ, i64_w, i32_w]
    rfl
  refine done_ (by kernel_rfl) ?_
  go_upto_region 2 with fail
  refine start_ (n := 3) (S := fun w' => w'.cell? ⟨0, 0, none⟩ = some v) (ds := []) #[false, false, false] (by kernel_rfl) rfl rfl (he) (fun hHeld => ?_)
  refine pure_ (i := 1) (N := some 4) (v := ?_) (a' := ?_) #[false, true, false] rfl rfl (by kernel_rfl) (fun _ _ _ h => h) (Or.inl ⟨by rfl, ?_⟩) ?_ ?_
  rotate_left
  · intro w'
    go_simp
    with_reducible rfl
  rotate_left
  · simp only [Act.put, List.setIfInBounds_toArray, List.set_cons_zero, List.set_cons_succ, i64_w, i32_w]
    rfl
  refine take_ (i := 0) (N := some 16) (v := ?_) (a' := ?_) #[true, true, false] rfl rfl (by kernel_rfl) (fun _ _ _ h => h) (Or.inl ⟨by rfl, ?_⟩) hHeld ?_ ?_
  rotate_left
  · intro w' s0
    go_simp
    with_reducible rfl
  rotate_left
  · simp only [Act.put, List.setIfInBounds_toArray, List.set_cons_zero, List.set_cons_succ, i64_w, i32_w]
    rfl
  refine pure_ (i := 2) (N := some 5) (v := ?_) (a' := ?_) #[true, true, true] rfl rfl (by kernel_rfl) (fun _ _ _ h => h) (Or.inl ⟨by rfl, ?_⟩) ?_ ?_
  rotate_left
  · intro w'
    go_simp
    with_reducible rfl
  rotate_left
  · simp only [Act.put, List.setIfInBounds_toArray, List.set_cons_zero, List.set_cons_succ, i64_w, i32_w]
    rfl
  refine done_ (by kernel_rfl) ?_
  go_wp2
  go_ret2
  exact ⟨rfl, rfl⟩
end Go.Proofs.YtejbpbdlolehnaaDoor.Ber
namespace Go.Proofs.YtejbpbdlolehnaaDoor.Ber
open Go.RowKit Go.Proofs.YtejbpbdlolehnaaDoorW.PrintWords Go.Proofs.YtejbpbdlolehnaaDoorW.PrintLast Go.Proofs.YtejbpbdlolehnaaDoor.Buf Go.Proofs.YtejbpbdlolehnaaDoor.Pk
set_option linter.unusedVariables false
set_option linter.unusedSimpArgs false
/-- r (of the dynamic type T, its Read the function F) is a reader that lies in block g, below B; Q W l: it is at the bytes l; va, ua: what io.EOF and io.ErrUnexpectedEOF point to -/
structure RdSpec (T F : Nat) (r : Value) (g B : Nat) (va ua : Addr) (Q : World → List Int → Prop) : Prop where
  hm : ∀ w : World, (method 272 T r "Read").run Tryd.prog w = .ok (F, r) w
  hn : ∀ w : World, (nilAhead 272 T r "Read").run Tryd.prog w = .ok (some false) w
  hcf : ∀ (args : Array Value) (w : World), (callFunc F args).run Tryd.prog w = .ok (.enter F args) w
  lt : g < B
  eof : ∀ W l, Q W l → W.cell? ⟨0, 0, none⟩ = some (.iface 104 (.pointer (some va)))
  ueof : ∀ W l, Q W l → W.cell? ⟨1, 0, none⟩ = some (.iface 104 (.pointer (some ua)))
  eofb : ∀ W l, Q W l → (∃ ca ta, W.heap[va.block]? = some (.cells ca ta (0, 0))) ∧ ∃ ca ta, W.heap[ua.block]? = some (.cells ca ta (0, 0))
  keep : ∀ W W' l, Q W l → (∀ b, b < B → W'.heap[b]? = W.heap[b]?) → Q W' l
  none_ : ∀ (W : World) (A : Option Addr) (m c : Nat), Q W [] → 0 < m → Calls Tryd.prog F #[r, .slice A m c] W fun e w' => e = .returned (.tuple #[.int .i64 0, (.iface 104 (.pointer (some va)))]) ∧ Q w' [] ∧ Only (fun b => b = g) W w'
  some_ : ∀ (W : World) (l : List Int) (pb po m pc : Nat) (cur : Array Value), Q W l → l ≠ [] → W.heap[pb]? = some (.cells cur 5 (0, 0)) → po + m ≤ cur.size → B ≤ pb →
    Calls Tryd.prog F #[r, .slice (some ⟨pb, po, none⟩) m pc] W fun e w' => e = .returned (.tuple #[.int .i64 (Nat.min l.length m : Nat), .nilIface]) ∧ Q w' (l.drop (Nat.min l.length m)) ∧ Took (fun k => k = g) pb po cur (l.take (Nat.min l.length m)) W w'
section
variable {T F : Nat} {r : Value} {g B : Nat} {va ua : Addr} {Q : World → List Int → Prop}
set_option maxHeartbeats 3200000 in
set_option maxRecDepth 100000 in
theorem atLeast_some (R : RdSpec T F r g B va ua Q) (W : World) (x : Int) (l : List Int) (hQ : Q W (x :: l)) (pb : Nat) (z : Value) (hp : W.heap[pb]? = some (.cells #[z] 5 (0, 0))) (hB : B ≤ pb) :
    Calls Tryd.prog 79 #[.iface T r, .slice (some ⟨pb, 0, none⟩) 1 1, .int .i64 1] W fun e w' => e = .returned (.tuple #[.int .i64 1, .nilIface]) ∧ Q w' l ∧ w'.heap[pb]? = some (.cells #[.int .u8 x] 5 (0, 0)) ∧ Only (fun b => b = g ∨ b = pb) W w' := by
  have hmf : ∀ (fn : Fn) (first cap : Array Value) (w : World), (Instr.makeFunc fn first cap).run Tryd.prog w = .ok (.func fn first cap) w := fun _ _ _ _ => rfl
  have hn := R.hn
  have HM := Lib.hid R.hm
  have HCF := Lib.hid R.hcf
  have HR : Hid (Calls Tryd.prog F #[r, .slice (some ⟨pb, 0, none⟩) 1 1] W.drew fun e w' => e = .returned (.tuple #[.int .i64 1, .nilIface]) ∧ Q w' l ∧ (w'.heap[pb]? = some (.cells #[.int .u8 x] 5 (0, 0)) ∧ Only (fun b => b = g ∨ b = pb) W w')) := Lib.hid (by
    refine (R.some_ W.drew (x :: l) pb 0 1 1 #[z] (R.keep W _ _ hQ (fun _ _ => rfl)) (by simp) hp (by simp) hB).mono ?_
    rintro e w' ⟨he, hq, ht, ho⟩
    have e1 : Nat.min (x :: l).length 1 = 1 := by rw [List.length_cons]; exact Nat.min_eq_right (by omega)
    rw [e1] at he hq ht
    exact ⟨he, hq, by simpa [nums] using ht, ⟨ho.os, ho.tape, ho.output, ho.size, ho.block⟩⟩)
  clear hp hB hQ R
  go_enter Tryd.func79, Tryd.ntmps79
  go_wp2
  go_loopw [6, 7] (fun n er wr => (n = .int .i64 0 ∧ er = .nilIface ∧ wr = W) ∨ (n = .int .i64 1 ∧ er = .nilIface ∧ Hid (Q wr l ∧ wr.heap[pb]? = some (.cells #[.int .u8 x] 5 (0, 0)) ∧ Only (fun b => b = g ∨ b = pb) W wr))) (fun n _ _ => 1 - (intOf n).toNat)
  case atStart => exact .inl ⟨rfl, rfl, rfl⟩
  case round =>
    rcases hrel with ⟨rfl, rfl, hw⟩ | ⟨rfl, rfl, HP⟩
    · obtain rfl : W = wr := hw.symm
      go_upto_region 5 with fail
      refine start_ (n := 13) (S := fun w' => True) (ds := []) #[nN,nN,nN,nN,nN,nN,nN,nN,nN,nN,nN,nN,nN] (by kernel_rfl) rfl rfl trivial (fun hHeld => ?_)
      refine pure_ (i := 0) (N := some 22) (v := ?_) (a' := ?_) #[yY,nN,nN,nN,nN,nN,nN,nN,nN,nN,nN,nN,nN] rfl rfl (by kernel_rfl) (fun _ _ _ h => h) (Or.inl ⟨by rfl, ?_⟩) ?_ ?_
      rotate_left
      · intro w'
        go_simp
        with_reducible rfl
      rotate_left
      · simp only [Act.put, List.setIfInBounds_toArray, List.set_cons_zero, List.set_cons_succ, i64_w, i32_w]
        rfl
      refine pure_ (i := 1) (N := some 23) (v := ?_) (a' := ?_) #[yY,yY,nN,nN,nN,nN,nN,nN,nN,nN,nN,nN,nN] rfl rfl (by kernel_rfl) (fun _ _ _ h => h) (Or.inl ⟨by rfl, ?_⟩) ?_ ?_
      rotate_left
      · intro w'
        go_simp
        with_reducible rfl
      rotate_left
      · simp only [Act.put, List.setIfInBounds_toArray, List.set_cons_zero, List.set_cons_succ, i64_w, i32_w]
        rfl
      refine pure_ (i := 2) (N := some 24) (v := ?_) (a' := ?_) #[yY,yY,yY,nN,nN,nN,nN,nN,nN,nN,nN,nN,nN] rfl rfl (by kernel_rfl) (fun _ _ _ h => h) (Or.inl ⟨by rfl, ?_⟩) ?_ ?_
      rotate_left
      · intro w'
        go_simp
        with_reducible rfl
      rotate_left
      · simp only [Act.put, List.setIfInBounds_toArray, List.set_cons_zero, List.set_cons_succ, i64_w, i32_w]
        rfl
      refine pure_ (i := 3) (N := some 25) (v := ?_) (a' := ?_) #[yY,yY,yY,yY,nN,nN,nN,nN,nN,nN,nN,nN,nN] rfl rfl (by kernel_rfl) (fun _ _ _ h => h) (Or.inl ⟨by rfl, ?_⟩) ?_ ?_
      rotate_left
      · intro w'
        go_simp
        with_reducible rfl
      rotate_left
      · simp only [Act.put, List.setIfInBounds_toArray, List.set_cons_zero, List.set_cons_succ, i64_w, i32_w]
        rfl
      refine pure_ (i := 4) (N := some 26) (v := ?_) (a' := ?_) #[yY,yY,yY,yY,yY,nN,nN,nN,nN,nN,nN,nN,nN] rfl rfl (by kernel_rfl) (fun _ _ _ h => h) (Or.inl ⟨by rfl, ?_⟩) ?_ ?_
      rotate_left
      · intro w'
        go_simp
        with_reducible rfl
      rotate_left
      · simp only [Act.put, List.setIfInBounds_toArray, List.set_cons_zero, List.set_cons_succ, i64_w, i32_w]
        rfl
      refine pure_ (i := 5) (N := some 27) (v := ?_) (a' := ?_) #[yY,yY,yY,yY,yY,yY,nN,nN,nN,nN,nN,nN,nN] rfl rfl (by kernel_rfl) (fun _ _ _ h => h) (Or.inl ⟨by rfl, ?_⟩) ?_ ?_
      rotate_left
      · intro w'
        go_simp
        with_reducible rfl
      rotate_left
      · simp only [Act.put, List.setIfInBounds_toArray, List.set_cons_zero, List.set_cons_succ, i64_w, i32_w]
        rfl
      refine pure_ (i := 6) (N := some 28) (v := ?_) (a' := ?_) #[yY,yY,yY,yY,yY,yY,yY,nN,nN,nN,nN,nN,nN] rfl rfl (by kernel_rfl) (fun _ _ _ h => h) (Or.inl ⟨by rfl, ?_⟩) ?_ ?_
      rotate_left
      · intro w'
        go_simp
        with_reducible rfl
      rotate_left
      · simp only [Act.put, List.setIfInBounds_toArray, List.set_cons_zero, List.set_cons_succ, i64_w, i32_w]
        rfl
      refine one_ (i := 7) (N := some 29) #[yY,yY,yY,yY,yY,yY,yY,yY,nN,nN,nN,nN,nN] rfl rfl (by kernel_rfl) (by decide) (fun K hK => ?_)
      refine call_ F #[r, .slice (some ⟨pb, 0, none⟩) 1 1] (by rfl) rfl ?_ ?_
      · have hm1 := HM.out
        have hcf1 := HCF.out
        simp [execOp, resolve, invoke, Act.eval, hm1, hcf1, go_sem]
      with_reducible refine HR.out.mono ?_
      rintro e W5 ⟨rfl, hQ5, hT5⟩
      refine ⟨_, rfl, ?_⟩
      have HQ5 := Lib.hid hQ5
      have HT5 := Lib.hid hT5
      clear hQ5 hT5
      refine hK.out _ _ trivial (fun hHeld => ?_)
      clear hK K
      refine norm_ (a' := ?_) ?_ ?_
      rotate_left
      · show Act.put _ (some 29) _ = _
        simp only [Act.put, List.setIfInBounds_toArray, List.set_cons_zero, List.set_cons_succ, i64_w, i32_w]
        rfl
      refine pure_ (i := 8) (N := some 21) (v := ?_) (a' := ?_) #[yY,yY,yY,yY,yY,yY,yY,yY,yY,nN,nN,nN,nN] rfl rfl (by kernel_rfl) (fun _ _ _ h => h) (Or.inl ⟨by rfl, ?_⟩) ?_ ?_
      rotate_left
      · intro w'
        go_simp
        with_reducible rfl
      rotate_left
      · simp only [Act.put, List.setIfInBounds_toArray, List.set_cons_zero, List.set_cons_succ, i64_w, i32_w]
        rfl
      refine pure_ (i := 9) (N := some 30) (v := ?_) (a' := ?_) #[yY,yY,yY,yY,yY,yY,yY,yY,yY,yY,nN,nN,nN] rfl rfl (by kernel_rfl) (fun _ _ _ h => h) (Or.inl ⟨by rfl, ?_⟩) ?_ ?_
      rotate_left
      · intro w'
        go_simp
        with_reducible rfl
      rotate_left
      · simp only [Act.put, List.setIfInBounds_toArray, List.set_cons_zero, List.set_cons_succ, i64_w, i32_w]
        rfl
      refine pure_ (i := 10) (N := some 31) (v := ?_) (a' := ?_) #[yY,yY,yY,yY,yY,yY,yY,yY,yY,yY,yY,nN,nN] rfl rfl (by kernel_rfl) (fun _ _ _ h => h) (Or.inl ⟨by rfl, ?_⟩) ?_ ?_
      rotate_left
      · intro w'
        go_simp
        with_reducible rfl
      rotate_left
      · simp only [Act.put, List.setIfInBounds_toArray, List.set_cons_zero, List.set_cons_succ, i64_w, i32_w]
        rfl
      refine pure_ (i := 11) (N := some 8) (v := ?_) (a' := ?_) #[yY,yY,yY,yY,yY,yY,yY,yY,yY,yY,yY,yY,nN] rfl rfl (by kernel_rfl) (fun _ _ _ h => h) (Or.inl ⟨by rfl, ?_⟩) ?_ ?_
      rotate_left
      · intro w'
        go_simp
        with_reducible rfl
      rotate_left
      · simp only [Act.put, List.setIfInBounds_toArray, List.set_cons_zero, List.set_cons_succ, i64_w, i32_w]
        rfl
      refine pure_ (i := 12) (N := some 7) (v := ?_) (a' := ?_) #[yY,yY,yY,yY,yY,yY,yY,yY,yY,yY,yY,yY,yY] rfl rfl (by kernel_rfl) (fun _ _ _ h => h) (Or.inl ⟨by rfl, ?_⟩) ?_ ?_
      rotate_left
      · intro w'
        go_simp
        with_reducible rfl
      rotate_left
      · simp only [Act.put, List.setIfInBounds_toArray, List.set_cons_zero, List.set_cons_succ, i64_w, i32_w]
        rfl
      refine done_ (by kernel_rfl) ?_
      go_wp2
      exact ⟨.inr ⟨rfl, rfl, Lib.hid ⟨HQ5.out, HT5.out⟩⟩, by simp [intOf]⟩
    · go_wp2
      go_ret2
      exact ⟨rfl, HP.out⟩
set_option maxHeartbeats 3200000 in
set_option maxRecDepth 100000 in
theorem atLeast_none (R : RdSpec T F r g B va ua Q) (W : World) (hQ : Q W []) (pb : Nat) :
    Calls Tryd.prog 79 #[.iface T r, .slice (some ⟨pb, 0, none⟩) 1 1, .int .i64 1] W fun e w' => e = .returned (.tuple #[.int .i64 0, (.iface 104 (.pointer (some va)))]) ∧ Q w' [] ∧ Only (fun b => b = g) W w' := by
  have hmf : ∀ (fn : Fn) (first cap : Array Value) (w : World), (Instr.makeFunc fn first cap).run Tryd.prog w = .ok (.func fn first cap) w := fun _ _ _ _ => rfl
  have hn := R.hn
  have HM := Lib.hid R.hm
  have HCF := Lib.hid R.hcf
  have HR : Hid (Calls Tryd.prog F #[r, .slice (some ⟨pb, 0, none⟩) 1 1] W.drew fun e w' => e = .returned (.tuple #[.int .i64 0, (.iface 104 (.pointer (some va)))]) ∧ Q w' [] ∧ Only (fun b => b = g) W w') := Lib.hid (by
    refine (R.none_ W.drew (some ⟨pb, 0, none⟩) 1 1 (R.keep W _ _ hQ (fun _ _ => rfl)) (by decide)).mono ?_
    rintro e w' ⟨he, hq, ho⟩
    exact ⟨he, hq, ho.os, ho.tape, ho.output, ho.size, ho.block⟩)
  clear hQ R
  go_enter Tryd.func79, Tryd.ntmps79
  go_wp2
  go_loopw [6, 7] (fun n er wr => n = .int .i64 0 ∧ ((er = .nilIface ∧ wr = W) ∨ (er = (.iface 104 (.pointer (some va))) ∧ Hid (Q wr [] ∧ Only (fun b => b = g) W wr)))) (fun _ er _ => match er with | .nilIface => 1 | _ => 0)
  case atStart => exact ⟨rfl, .inl ⟨rfl, rfl⟩⟩
  case round =>
    obtain ⟨rfl, hrel⟩ := hrel
    rcases hrel with ⟨rfl, hw⟩ | ⟨rfl, HP⟩
    · obtain rfl : W = wr := hw.symm
      go_upto_region 5 with fail
      refine start_ (n := 13) (S := fun w' => True) (ds := []) #[nN,nN,nN,nN,nN,nN,nN,nN,nN,nN,nN,nN,nN] (by kernel_rfl) rfl rfl trivial (fun hHeld => ?_)
      refine pure_ (i := 0) (N := some 22) (v := ?_) (a' := ?_) #[yY,nN,nN,nN,nN,nN,nN,nN,nN,nN,nN,nN,nN] rfl rfl (by kernel_rfl) (fun _ _ _ h => h) (Or.inl ⟨by rfl, ?_⟩) ?_ ?_
      rotate_left
      · intro w'
        go_simp
        with_reducible rfl
      rotate_left
      · simp only [Act.put, List.setIfInBounds_toArray, List.set_cons_zero, List.set_cons_succ, i64_w, i32_w]
        rfl
      refine pure_ (i := 1) (N := some 23) (v := ?_) (a' := ?_) #[yY,yY,nN,nN,nN,nN,nN,nN,nN,nN,nN,nN,nN] rfl rfl (by kernel_rfl) (fun _ _ _ h => h) (Or.inl ⟨by rfl, ?_⟩) ?_ ?_
      rotate_left
      · intro w'
        go_simp
        with_reducible rfl
      rotate_left
      · simp only [Act.put, List.setIfInBounds_toArray, List.set_cons_zero, List.set_cons_succ, i64_w, i32_w]
        rfl
      refine pure_ (i := 2) (N := some 24) (v := ?_) (a' := ?_) #[yY,yY,yY,nN,nN,nN,nN,nN,nN,nN,nN,nN,nN] rfl rfl (by kernel_rfl) (fun _ _ _ h => h) (Or.inl ⟨by rfl, ?_⟩) ?_ ?_
      rotate_left
      · intro w'
        go_simp
        with_reducible rfl
      rotate_left
      · simp only [Act.put, List.setIfInBounds_toArray, List.set_cons_zero, List.set_cons_succ, i64_w, i32_w]
        rfl
      refine pure_ (i := 3) (N := some 25) (v := ?_) (a' := ?_) #[yY,yY,yY,yY,nN,nN,nN,nN,nN,nN,nN,nN,nN] rfl rfl (by kernel_rfl) (fun _ _ _ h => h) (Or.inl ⟨by rfl, ?_⟩) ?_ ?_
      rotate_left
      · intro w'
        go_simp
        with_reducible rfl
      rotate_left
      · simp only [Act.put, List.setIfInBounds_toArray, List.set_cons_zero, List.set_cons_succ, i64_w, i32_w]
        rfl
      refine pure_ (i := 4) (N := some 26) (v := ?_) (a' := ?_) #[yY,yY,yY,yY,yY,nN,nN,nN,nN,nN,nN,nN,nN] rfl rfl (by kernel_rfl) (fun _ _ _ h => h) (Or.inl ⟨by rfl, ?_⟩) ?_ ?_
      rotate_left
      · intro w'
        go_simp
        with_reducible rfl
      rotate_left
      · simp only [Act.put, List.setIfInBounds_toArray, List.set_cons_zero, List.set_cons_succ, i64_w, i32_w]
        rfl
      refine pure_ (i := 5) (N := some 27) (v := ?_) (a' := ?_) #[yY,yY,yY,yY,yY,yY,nN,nN,nN,nN,nN,nN,nN] rfl rfl (by kernel_rfl) (fun _ _ _ h => h) (Or.inl ⟨by rfl, ?_⟩) ?_ ?_
      rotate_left
      · intro w'
        go_simp
        with_reducible rfl
      rotate_left
      · simp only [Act.put, List.setIfInBounds_toArray, List.set_cons_zero, List.set_cons_succ, i64_w, i32_w]
        rfl
      refine pure_ (i := 6) (N := some 28) (v := ?_) (a' := ?_) #[yY,yY,yY,yY,yY,yY,yY,nN,nN,nN,nN,nN,nN] rfl rfl (by kernel_rfl) (fun _ _ _ h => h) (Or.inl ⟨by rfl, ?_⟩) ?_ ?_
      rotate_left
      · intro w'
        go_simp
        with_reducible rfl
      rotate_left
      · simp only [Act.put, List.setIfInBounds_toArray, List.set_cons_zero, List.set_cons_succ, i64_w, i32_w]
        rfl
      refine one_ (i := 7) (N := some 29) #[yY,yY,yY,yY,yY,yY,yY,yY,nN,nN,nN,nN,nN] rfl rfl (by kernel_rfl) (by decide) (fun K hK => ?_)
      refine call_ F #[r, .slice (some ⟨pb, 0, none⟩) 1 1] (by rfl) rfl ?_ ?_
      · have hm1 := HM.out
        have hcf1 := HCF.out
        simp [execOp, resolve, invoke, Act.eval, hm1, hcf1, go_sem]
      with_reducible refine HR.out.mono ?_
      rintro e W5 ⟨rfl, hQ5, hT5⟩
      refine ⟨_, rfl, ?_⟩
      have HQ5 := Lib.hid hQ5
      have HT5 := Lib.hid hT5
      clear hQ5 hT5
      refine hK.out _ _ trivial (fun hHeld => ?_)
      clear hK K
      refine norm_ (a' := ?_) ?_ ?_
      rotate_left
      · show Act.put _ (some 29) _ = _
        simp only [Act.put, List.setIfInBounds_toArray, List.set_cons_zero, List.set_cons_succ, i64_w, i32_w]
        rfl
      refine pure_ (i := 8) (N := some 21) (v := ?_) (a' := ?_) #[yY,yY,yY,yY,yY,yY,yY,yY,yY,nN,nN,nN,nN] rfl rfl (by kernel_rfl) (fun _ _ _ h => h) (Or.inl ⟨by rfl, ?_⟩) ?_ ?_
      rotate_left
      · intro w'
        go_simp
        with_reducible rfl
      rotate_left
      · simp only [Act.put, List.setIfInBounds_toArray, List.set_cons_zero, List.set_cons_succ, i64_w, i32_w]
        rfl
      refine pure_ (i := 9) (N := some 30) (v := ?_) (a' := ?_) #[yY,yY,yY,yY,yY,yY,yY,yY,yY,yY,nN,nN,nN] rfl rfl (by kernel_rfl) (fun _ _ _ h => h) (Or.inl ⟨by rfl, ?_⟩) ?_ ?_
      rotate_left
      · intro w'
        go_simp
        with_reducible rfl
      rotate_left
      · simp only [Act.put, List.setIfInBounds_toArray, List.set_cons_zero, List.set_cons_succ, i64_w, i32_w]
        rfl
      refine pure_ (i := 10) (N := some 31) (v := ?_) (a' := ?_) #[yY,yY,yY,yY,yY,yY,yY,yY,yY,yY,yY,nN,nN] rfl rfl (by kernel_rfl) (fun _ _ _ h => h) (Or.inl ⟨by rfl, ?_⟩) ?_ ?_
      rotate_left
      · intro w'
        go_simp
        with_reducible rfl
      rotate_left
      · simp only [Act.put, List.setIfInBounds_toArray, List.set_cons_zero, List.set_cons_succ, i64_w, i32_w]
        rfl
      refine pure_ (i := 11) (N := some 8) (v := ?_) (a' := ?_) #[yY,yY,yY,yY,yY,yY,yY,yY,yY,yY,yY,yY,nN] rfl rfl (by kernel_rfl) (fun _ _ _ h => h) (Or.inl ⟨by rfl, ?_⟩) ?_ ?_
      rotate_left
      · intro w'
        go_simp
        with_reducible rfl
      rotate_left
      · simp only [Act.put, List.setIfInBounds_toArray, List.set_cons_zero, List.set_cons_succ, i64_w, i32_w]
        rfl
      refine pure_ (i := 12) (N := some 7) (v := ?_) (a' := ?_) #[yY,yY,yY,yY,yY,yY,yY,yY,yY,yY,yY,yY,yY] rfl rfl (by kernel_rfl) (fun _ _ _ h => h) (Or.inl ⟨by rfl, ?_⟩) ?_ ?_
      rotate_left
      · intro w'
        go_simp
        with_reducible rfl
      rotate_left
      · simp only [Act.put, List.setIfInBounds_toArray, List.set_cons_zero, List.set_cons_succ, i64_w, i32_w]
        rfl
      refine done_ (by kernel_rfl) ?_
      go_wp2
      exact ⟨⟨rfl, .inr ⟨rfl, Lib.hid ⟨HQ5.out, HT5.out⟩⟩⟩, by simp⟩
    · go_wp2
      go_ret2
      exact ⟨rfl, HP.out⟩
set_option maxHeartbeats 3200000 in
set_option maxRecDepth 100000 in
theorem full_some (R : RdSpec T F r g B va ua Q) (W : World) (x : Int) (l : List Int) (hQ : Q W (x :: l)) (pb : Nat) (z : Value) (hp : W.heap[pb]? = some (.cells #[z] 5 (0, 0))) (hB : B ≤ pb) :
    Calls Tryd.prog 73 #[.iface T r, .slice (some ⟨pb, 0, none⟩) 1 1] W fun e w' => e = .returned (.tuple #[.int .i64 1, .nilIface]) ∧ Q w' l ∧ w'.heap[pb]? = some (.cells #[.int .u8 x] 5 (0, 0)) ∧ Only (fun b => b = g ∨ b = pb) W w' := by
  have HA := Lib.hid (atLeast_some R W x l hQ pb z hp hB)
  clear hQ hp hB R
  go_enter Tryd.func73, Tryd.ntmps73
  go_wp2_with (go_at_call 79
               with_reducible refine HA.out.mono ?_
               rintro e W5 ⟨rfl, hQ5⟩
               have HQ5 := Lib.hid hQ5
               clear hQ5)
  go_ret2
  exact ⟨rfl, HQ5.out⟩
set_option maxHeartbeats 3200000 in
set_option maxRecDepth 100000 in
theorem full_none (R : RdSpec T F r g B va ua Q) (W : World) (hQ : Q W []) (pb : Nat) :
    Calls Tryd.prog 73 #[.iface T r, .slice (some ⟨pb, 0, none⟩) 1 1] W fun e w' => e = .returned (.tuple #[.int .i64 0, (.iface 104 (.pointer (some va)))]) ∧ Q w' [] ∧ Only (fun b => b = g) W w' := by
  have HA := Lib.hid (atLeast_none R W hQ pb)
  clear hQ R
  go_enter Tryd.func73, Tryd.ntmps73
  go_wp2_with (go_at_call 79
               with_reducible refine HA.out.mono ?_
               rintro e W5 ⟨rfl, hQ5⟩
               have HQ5 := Lib.hid hQ5
               clear hQ5)
  go_ret2
  exact ⟨rfl, HQ5.out⟩
theorem mk_one : ∀ w : World, (Instr.makeSlice 22 (.int .i64 1) (.int .i64 1)).run Tryd.prog w = .ok (.slice (some ⟨w.heap.size, 0, none⟩) 1 1) (w.alloc (.cells #[.int .u8 0] 5)) := fun _ => by kernel_rfl
set_option maxHeartbeats 3200000 in
set_option maxRecDepth 100000 in
theorem readByte_some (R : RdSpec T F r g B va ua Q) (W : World) (x : Int) (l : List Int) (hQ : Q W (x :: l)) (hB : B ≤ W.heap.size) :
    Calls Tryd.prog 65 #[.iface T r] W fun e w' => e = .returned (.tuple #[.int .u8 x, .nilIface]) ∧ Q w' l ∧ Only (fun b => b = g) W w' := by
  have HA : Hid (∀ W1, W1 = W.alloc (.cells #[.int .u8 0] 5) → Calls Tryd.prog 73 #[.iface T r, .slice (some ⟨W.heap.size, 0, none⟩) 1 1] W1 fun e w' => e = .returned (.tuple #[.int .i64 1, .nilIface]) ∧ Q w' l ∧ w'.heap[W.heap.size]? = some (.cells #[.int .u8 x] 5 (0, 0)) ∧ Only (fun b => b = g) W w') := Lib.hid (fun W1 hW1 => by
    have hb1 : Below W.heap.size W W1 := by rw [hW1]; exact below_alloc (Below.refl _ _) _
    refine (full_some R W1 x l (R.keep W W1 _ hQ (fun b hb => hb1.block b (Nat.lt_of_lt_of_le hb hB))) W.heap.size (.int .u8 0) (by rw [hW1]; exact blk_new _ _) hB).mono ?_
    rintro e w' ⟨he, hq, ht, ho⟩
    exact ⟨he, hq, ht, (Only.of_below (fun b => b = g) hb1).trans ho (fun i hi h => h.resolve_right (fun e => by omega))⟩)
  clear hQ hB R
  have hmk := mk_one
  go_enter Tryd.func65, Tryd.ntmps65
  go_wp2_with (go_at_call 73
               with_reducible refine (HA.out _ rfl).mono ?_
               rintro e W5 ⟨rfl, hQ5, hT5, hO5⟩
               have HQ5 := Lib.hid (And.intro hQ5 hO5)
               have k0 : W5.cell? ⟨W.heap.size, 0, none⟩ = some (.int .u8 x) := blk_cell hT5 0
               clear hQ5 hT5 hO5)
  go_ret2
  exact ⟨rfl, HQ5.out⟩
set_option maxHeartbeats 3200000 in
set_option maxRecDepth 100000 in
theorem readByte_none (R : RdSpec T F r g B va ua Q) (W : World) (hQ : Q W []) (hB : B ≤ W.heap.size) :
    Calls Tryd.prog 65 #[.iface T r] W fun e w' => e = .returned (.tuple #[.int .u8 0, (.iface 104 (.pointer (some va)))]) ∧ Q w' [] ∧ Only (fun b => b = g) W w' := by
  have HA : Hid (∀ W1, W1 = W.alloc (.cells #[.int .u8 0] 5) → Calls Tryd.prog 73 #[.iface T r, .slice (some ⟨W.heap.size, 0, none⟩) 1 1] W1 fun e w' => e = .returned (.tuple #[.int .i64 0, (.iface 104 (.pointer (some va)))]) ∧ Q w' [] ∧ Only (fun b => b = g) W w') := Lib.hid (fun W1 hW1 => by
    have hb1 : Below W.heap.size W W1 := by rw [hW1]; exact below_alloc (Below.refl _ _) _
    refine (full_none R W1 (R.keep W W1 _ hQ (fun b hb => hb1.block b (Nat.lt_of_lt_of_le hb hB))) W.heap.size).mono ?_
    rintro e w' ⟨he, hq, ho⟩
    exact ⟨he, hq, (Only.of_below (fun b => b = g) hb1).trans ho (fun i hi h => h)⟩)
  clear hQ hB R
  have hmk := mk_one
  go_enter Tryd.func65, Tryd.ntmps65
  go_wp2_with (go_at_call 73
               with_reducible refine (HA.out _ rfl).mono ?_
               rintro e W5 ⟨rfl, hQ5⟩
               have HQ5 := Lib.hid hQ5
               clear hQ5)
  go_ret2
  exact ⟨rfl, HQ5.out⟩
end
end Go.Proofs.YtejbpbdlolehnaaDoor.Ber
namespace Go.Proofs.YtejbpbdlolehnaaDoor.PFnEncode
open Go.RowKit Go.Proofs.YtejbpbdlolehnaaDoorW.PrintWords Go.Proofs.YtejbpbdlolehnaaDoorW.PrintLast Go.Proofs.YtejbpbdlolehnaaDoorW.PrintMore
attribute [local go_sem] max2_int min2_int max_two min_two max_three min_three max_four min_four   -- for this text's walks alone
set_option linter.unusedVariables false
set_option linter.unusedSimpArgs false

/-! ### spec_Bytes: function 12 -/
end Go.Proofs.YtejbpbdlolehnaaDoor.PFnEncode
