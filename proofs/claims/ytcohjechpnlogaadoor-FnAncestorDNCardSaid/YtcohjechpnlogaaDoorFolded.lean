/- spec.folded: a text in small letters. -/
import Derived.Test.YtcohjechpnlogaaDoorProg
import Derived.Test.YtcohjechpnlogaaDoorWWords
import Derived.Test.YtcohjechpnlogaaDoorWMore
import Derived.Handy
import Derived.KernelRfl
import Derived.Deep.RegionWith
import Derived.Lib.Hide
import Derived.Lib.ConvBytes
import Derived.Lib.BufferMore
namespace Go.Proofs.YtcohjechpnlogaaDoor.PDN
open Go.RowKit Go.Proofs.YtcohjechpnlogaaDoorW.PrintWords Go.Proofs.YtcohjechpnlogaaDoorW.PrintMore
set_option linter.unusedVariables false
set_option linter.unusedSimpArgs false

/-- a letter's small form -/
def fi (x : Int) : Int := if 65 ≤ x ∧ x ≤ 90 then x + 32 else x
/-- the first letters are small already -/
def mix (L : List Int) (i : Nat) : List Int := (L.take i).map fi ++ L.drop i
theorem mix_length (L : List Int) (i : Nat) : (mix L i).length = L.length := by simp [mix]; omega
theorem mix_rd (L : List Int) (i : Nat) (h : i < L.length) : rd (mix L i) (i : Int) = rd L (i : Int) := by
  simp only [rd, Int.toNat_natCast, List.getD_eq_getElem?_getD, mix]
  rw [List.getElem?_append_right (by simp; omega)]
  simp [Nat.min_eq_left (Nat.le_of_lt h)]
theorem mix_set (L : List Int) (i : Nat) (h : i < L.length) : (mix L i).set i (fi (rd L (i : Int))) = mix L (i + 1) := by
  have e : L.drop i = rd L (i : Int) :: L.drop (i + 1) := by
    simp only [rd, Int.toNat_natCast, List.getD_eq_getElem?_getD, List.getElem?_eq_getElem h]
    exact List.drop_eq_getElem_cons h
  have t : L.take (i + 1) = L.take i ++ [rd L (i : Int)] := by
    simp only [rd, Int.toNat_natCast, List.getD_eq_getElem?_getD, List.getElem?_eq_getElem h]
    exact List.take_succ_eq_append_getElem h
  unfold mix
  rw [e, t, List.map_append, List.append_assoc, List.set_append_right _ _ (by simp; omega)]
  simp [Nat.min_eq_left (Nat.le_of_lt h)]
theorem mix_same (L : List Int) (i : Nat) (h : i < L.length) (hn : fi (rd L (i : Int)) = rd L (i : Int)) : mix L (i + 1) = mix L i := by
  rw [← mix_set L i h, hn, ← mix_rd L i h]
  have h2 : i < (mix L i).length := by rw [mix_length]; exact h
  simp only [rd, Int.toNat_natCast, List.getD_eq_getElem?_getD, List.getElem?_eq_getElem h2]
  simp
theorem mix_all (L : List Int) : mix L L.length = L.map fi := by simp [mix]
theorem mix_zero (L : List Int) : mix L 0 = L := by simp [mix]

/-- the bytes of a text that was converted, some turned -/
def FB (w W : World) (n : Nat) (xs : List Int) : Prop :=
  xs.length = n ∧ Below w.heap.size w W ∧ ∃ arr, W.heap[w.heap.size]? = some (.cells arr 5 (arr.size, arr.size + 1)) ∧ n ≤ arr.size ∧ arr.toList.take n = nums .u8 xs

theorem FB.cell {w W : World} {n : Nat} {xs : List Int} (h : FB w W n xs) (i : Nat) (hi : i < n) : W.cell? ⟨w.heap.size, i, none⟩ = some (.int .u8 (rd xs (i : Int))) ∧ W.frozen? ⟨w.heap.size, i, none⟩ = false := by
  obtain ⟨hl, hb, arr, ha, hn, ht⟩ := h
  constructor
  · rw [cell_of_row W w.heap.size i arr _ _ ha, ← Array.getElem?_toList]
    have : (arr.toList.take n)[i]? = (nums .u8 xs)[i]? := by rw [ht]
    rw [List.getElem?_take_of_lt hi] at this
    rw [this, nums, List.getElem?_map, List.getElem?_eq_getElem (by omega)]
    simp [rd, List.getD_eq_getElem?_getD, List.getElem?_eq_getElem (show i < xs.length by omega)]
  · simp [World.frozen?, ha]
    omega

theorem FB.step {w W : World} {n : Nat} {xs : List Int} (h : FB w W n xs) (i : Nat) (hi : i < n) (x : Int) : FB w (W.setCell ⟨w.heap.size, i, none⟩ (.int .u8 x)) n (xs.set i x) := by
  obtain ⟨hl, hb, arr, ha, hn, ht⟩ := h
  refine ⟨by simpa using hl, hb.setCell (p := ⟨w.heap.size, i, none⟩) (Nat.le_refl _) _, arr.setIfInBounds i (.int .u8 x), ?_, by simpa using hn, ?_⟩
  · rw [Array.size_setIfInBounds]
    exact Lib.heap_setCell_same (i := i) ha _
  · rw [Array.toList_setIfInBounds, List.take_set, ht, nums, nums, List.map_set]

theorem FB.reads {w W : World} {n : Nat} {xs : List Int} (h : FB w W n xs) (hn : n ≤ 9223372036854775807) : ReadsInt W .u8 (some ⟨w.heap.size, 0, none⟩) n xs := by
  refine ⟨h.1, hn, fun h0 => ⟨_, rfl, fun j hj => ?_⟩⟩
  rw [add_plain]
  exact (h.cell j hj).1

theorem fb_first (w : World) (s : ByteArray) : FB w (Lib.bytesWorld w 5 s) s.size (bytesOf s) := by
  refine ⟨bytesOf_length s, bytes_below (Below.refl _ _) (Nat.le_refl _) _ _, _, Lib.bytesWorld_at_new w 5 s, ?_, ?_⟩
  · simp [Lib.bytesCells]
  · simp [Lib.bytesCells, nums, bytesOf]

/-- a text in small letters -/
def low (s : ByteArray) : ByteArray := strOfNums ((bytesOf s).map fi)
def spec_folded.f (a0 : ByteArray) : Option ByteArray := if a0.size ≤ 140737488355328 then some (low a0) else none

set_option maxHeartbeats 800000 in
set_option maxRecDepth 100000 in
theorem spec_folded.calls (a0 : ByteArray) (r : ByteArray) (w : World) (h : spec_folded.f a0 = some r) :
    Calls Tryd.prog 33 #[.string a0] w fun e w' => e = .returned (.string r) ∧ Below w.heap.size w w' := by
  unfold spec_folded.f at h
  by_cases hs : a0.size ≤ 140737488355328
  · rw [if_pos hs] at h
    obtain rfl := Option.some.inj h
    clear h
    have kb := fun W => print_bytes (P := Tryd.prog) 9 22 5 Tryd.underlying9 Tryd.underlying22 Tryd.underlying5 a0 W
    obtain ⟨n, hn⟩ : ∃ n, n = a0.size := ⟨_, rfl⟩
    obtain ⟨L, hL⟩ : ∃ L, L = bytesOf a0 := ⟨_, rfl⟩
    have hl : L.length = n := by rw [hL, hn, bytesOf_length]
    obtain ⟨fin, hfin⟩ : ∃ fin, fin = low a0 := ⟨_, rfl⟩
    have hb0 := fb_first w a0
    rw [← hn, ← hL] at hb0
    have hrng : ∀ i : Nat, i < n → 0 ≤ rd L (i : Int) ∧ rd L (i : Int) < 256 := by
      intro i hi
      rw [hL]
      simp only [rd, Int.toNat_natCast, List.getD_eq_getElem?_getD, bytesOf, List.getElem?_map]
      rw [List.getElem?_eq_getElem (by rw [data_length]; omega)]
      have := (a0.data.toList[i]'(by rw [data_length]; omega)).toNat_lt
      simp only [Option.map_some, Option.getD_some]
      omega
    rw [← hfin]
    rw [low, ← hL] at hfin
    have HF := Lib.hid hfin
    have HB0 := Lib.hid hb0
    have HR := Lib.hid hrng
    have HL := Lib.hid hl
    obtain ⟨W1, hW1⟩ : ∃ W1, W1 = Lib.bytesWorld w 5 a0 := ⟨_, rfl⟩
    rw [← hW1] at HB0
    have HW1 := Lib.hid hW1
    rw [← hn] at hs
    have HN := Lib.hid hn
    clear hfin hb0 hrng hl hL hn hW1
    simp only [← HN.out] at kb
    go_enter Tryd.func33, Tryd.ntmps33
    go_wp2
    rw [← HW1.out]
    go_loopw [10, 4, 5] (fun iv _ _ wr => ∃ i : Nat, iv = .int .i64 i ∧ i ≤ n ∧ Hid (FB w wr n (mix L i))) (fun iv _ _ _ => n - (intOf iv).toNat)
    case atStart => exact ⟨0, rfl, Nat.zero_le _, Lib.hid (by rw [mix_zero]; exact HB0.out)⟩
    case round =>
      obtain ⟨i, rfl, hi, HI⟩ := hrel
      by_cases hlt : i < n
      · have hiL : i < L.length := by rw [HL.out]; exact hlt
        obtain ⟨hc, hf⟩ := HI.out.cell i hlt
        rw [mix_rd L i hiL] at hc
        obtain ⟨x, hx⟩ : ∃ x, x = rd L (i : Int) := ⟨_, rfl⟩
        have hr := HR.out i hlt
        rw [← hx] at hc hr
        obtain ⟨x0, x1⟩ := hr
        have HX := Lib.hid hx
        have HIL := Lib.hid hiL
        clear hx hiL
        by_cases hu : 65 ≤ x ∧ x ≤ 90
        · obtain ⟨u1, u2⟩ := hu
          have e1 : ((x + 97) % 256 - 65) % 256 = x + 32 := by omega
          go_wp2
          refine ⟨⟨i + 1, rfl, hlt, Lib.hid ?_⟩, ?_⟩
          · have := HI.out.step i hlt (x + 97 - 65)
            rw [← mix_set L i HIL.out, ← HX.out, fi, if_pos ⟨u1, u2⟩, show x + 32 = x + 97 - 65 by omega]
            exact this
          · show n - ((i : Int) + 1).toNat < n - ((i : Int)).toNat
            rw [show ((i : Int) + 1).toNat = i + 1 from rfl, Int.toNat_natCast]
            omega
        · have hsame : mix L (i + 1) = mix L i := mix_same L i HIL.out (by rw [← HX.out, fi, if_neg hu])
          have hm : n - ((i : Int) + 1).toNat < n - ((i : Int)).toNat := by
            rw [show ((i : Int) + 1).toNat = i + 1 from rfl, Int.toNat_natCast]
            omega
          have HS := Lib.hid hsame
          have HM := Lib.hid hm
          clear hsame hm
          by_cases u1 : 65 ≤ x
          · have u2 : ¬ x ≤ 90 := fun e => hu ⟨u1, e⟩
            clear hu
            go_wp2
            exact ⟨⟨i + 1, rfl, hlt, Lib.hid (by rw [HS.out]; exact HI.out)⟩, HM.out⟩
          · clear hu
            go_wp2
            exact ⟨⟨i + 1, rfl, hlt, Lib.hid (by rw [HS.out]; exact HI.out)⟩, HM.out⟩
      · obtain rfl : i = n := by omega
        have hcv : (convert 22 9 (.slice (some ⟨w.heap.size, 0, none⟩) i (grownCap w i 0 5))).run Tryd.prog wr = .ok (.string fin) wr := by
          rw [HF.out, ← mix_all, HL.out]
          exact string_of_reads Tryd.underlying22 Tryd.underlying5 Tryd.underlying9 (HI.out.reads (by omega))
        have HB := Lib.hid HI.out.2.1
        clear HI
        go_wp2
        go_ret
        exact ⟨rfl, HB.out⟩
  · rw [if_neg hs] at h
    exact absurd h (by simp)
end Go.Proofs.YtcohjechpnlogaaDoor.PDN
