/- goldap.EscapeFilter, walked: for every string of at most 2,000 bytes it returns the escaped value. -/
import Derived.Test.YthlameofbhopkaaEscBase
import Derived.Test.YthlameofbhopkaaProg
import Derived.WalkKit
import Derived.KernelRfl
import Derived.Deep.OwnRows
import Derived.Laws.BytesArg
import Derived.Lib.Hide
import Derived.Lib.HexFns
import Derived.Outline
namespace Go.Proofs.Ythlameofbhopkaa.EscWalk
open Go.RowKit Go.Proofs.YthlameofbhopkaaW.PrintWords Go.Proofs.Ythlameofbhopkaa.Esc

set_option linter.unusedVariables false
set_option linter.unusedSimpArgs false
theorem info5 : (Try.prog.info? 5).map (fun i => (i.zero, i.size, i.bytes)) = some (some (.int .u8 0), 1, 1) := by kernel_rfl

theorem must_any (c : Int) (w : World) : Calls Try.prog 13 #[.int .u8 c] w fun e w' => e = .returned (.bool (mustE c)) ∧ w = w' := by
  by_cases h1 : c > 127
  · have e : mustE c = true := by unfold mustE; simp [h1]
    rw [e]; clear e
    go_enter Try.func13, Try.ntmps13
    go_wp2
    go_ret
    exact ⟨rfl, rfl⟩
  by_cases h2 : c = 40
  · subst h2
    have e : mustE 40 = true := rfl
    rw [e]; clear e
    go_enter Try.func13, Try.ntmps13
    go_wp2
    go_ret
    exact ⟨rfl, rfl⟩
  by_cases h3 : c = 41
  · subst h3
    have e : mustE 41 = true := rfl
    rw [e]; clear e
    go_enter Try.func13, Try.ntmps13
    go_wp2
    go_ret
    exact ⟨rfl, rfl⟩
  by_cases h4 : c = 92
  · subst h4
    have e : mustE 92 = true := rfl
    rw [e]; clear e
    go_enter Try.func13, Try.ntmps13
    go_wp2
    go_ret
    exact ⟨rfl, rfl⟩
  by_cases h5 : c = 42
  · subst h5
    have e : mustE 42 = true := rfl
    rw [e]; clear e
    go_enter Try.func13, Try.ntmps13
    go_wp2
    go_ret
    exact ⟨rfl, rfl⟩
  have e : mustE c = (c == 0) := by
    unfold mustE; simp only [h1, h2, h3, h4, h5, decide_false, Bool.false_or]; rfl
  rw [e]; clear e
  have b1 : ¬ (127 < c) := h1
  have b2 : (c == 40) = false := by simpa using h2
  have b3 : (c == 41) = false := by simpa using h3
  have b4 : (c == 92) = false := by simpa using h4
  have b5 : (c == 42) = false := by simpa using h5
  clear h1 h2 h3 h4 h5
  go_enter Try.func13, Try.ntmps13
  go_wp2
  go_ret
  exact ⟨rfl, rfl⟩

/-- the row's cells when k bytes of s have been read: what has been written, then zeros -/
def rowF (s : ByteArray) (k : Nat) : Nat → Value := fun i => .int .u8 ((outp s 0 k).getD i 0)

theorem byte_at (s : ByteArray) (k : Nat) (h : k < s.size) : ((s[k]'h).toNat : Int) = bt s (k : Int) := by
  have := bt_at s (k : Int) (by simpa using h)
  simpa using this

theorem getD_app (l m : List Int) (i : Nat) : (l ++ m).getD i 0 = if i < l.length then l.getD i 0 else m.getD (i - l.length) 0 := by
  rw [List.getD_eq_getElem?_getD, List.getElem?_append]
  split <;> simp [List.getD_eq_getElem?_getD]

theorem hx_nat (m : Nat) (h : m < 16) (h' : m < hexs.size) : (((hexs[m]'h').toNat : Nat) : Int) = bt hexs (m : Int) := by
  have := bt_at hexs (m : Int) (by simpa using h')
  simpa using this

theorem hx_at (c : Int) (h0 : 0 ≤ c) (h : c < 16) : ∀ h', (((hexs[c.toNat]'h').toNat : Nat) : Int) = bt hexs c := fun h' => bt_at hexs c h'

set_option maxHeartbeats 1600000 in
theorem escape_any (s : ByteArray) (hs : s.size ≤ 2000) (w : World) :
    Calls Try.prog 11 #[.string s] w fun e w' => e = .returned (.string (strOfNums (outp s 0 s.size))) ∧ Below w.heap.size w w' := by
  have hcl := cnt_le s s.size 0
  by_cases h0 : cnt s 0 s.size = 0
  · have HE : Hid (strOfNums (outp s 0 s.size) = s) := by
      show _ = s
      rw [plain_out s s.size 0 (by omega) h0, List.drop_zero]
      unfold bytesOf
      rw [Lib.Lz.strOfNums_map]
    have HC : Hid (cnt s 0 s.size = 0) := h0
    rw [HE.out]
    clear h0
    go_enter Try.func11, Try.ntmps11
    go_wp2
    go_loop [3, 4] (fun n i => ∃ k : Nat, k ≤ s.size ∧ i = .int .i64 k ∧ n = .int .i64 0) (fun _ i => s.size - (intOf i).toNat)
    case atStart => exact ⟨0, Nat.zero_le _, rfl, rfl⟩
    case round =>
      obtain ⟨k, hk, rfl, rfl⟩ := hrel
      by_cases hlt : k < s.size
      · have hm : mustE ((s[k]'hlt).toNat : Int) = false := by
          rw [byte_at s k hlt]
          have h1 := cnt_mono s s.size (k + 1) (by omega)
          rw [HC.out, cnt_snoc, Nat.zero_add] at h1
          cases h : mustE (bt s (k : Int)) with
          | false => rfl
          | true => rw [if_pos h] at h1; omega
        go_wp2_with (go_at_call 13; refine (must_any _ _).mono ?_; rintro e w' ⟨rfl, rfl⟩)
        go_round
        case rel => exact ⟨k + 1, by omega, by go_num, rfl⟩
        case measure => simp [intOf]; omega
      · go_wp2
        go_ret
        exact ⟨rfl, Below.refl _ _⟩
  · have hpos : 0 < cnt s 0 s.size := by omega
    have HC : Hid (0 < cnt s 0 s.size) := hpos
    obtain ⟨N, hN⟩ : ∃ N, N = s.size + 2 * cnt s 0 s.size := ⟨_, rfl⟩
    obtain ⟨C, hC⟩ : ∃ C, C = cnt s 0 s.size := ⟨_, rfl⟩
    have hNC : N = s.size + 2 * C := by rw [hN, hC]
    have HCC : Hid (C = cnt s 0 s.size) := hC
    have hCp : 0 < C := by omega
    have hC2 : C ≤ 2000 := by omega
    have HN : Hid (N = s.size + 2 * C) := hNC
    have hN2 : N ≤ 6000 := by omega
    have hmk : ∀ w : World, (Instr.makeSlice 23 (.int .i64 ((s.size : Int) + (C : Int) * 2)) (.int .i64 ((s.size : Int) + (C : Int) * 2))).run Try.prog w = .ok (.slice (some ⟨w.heap.size, 0, none⟩) N N) (w.alloc (.cells (madeCells #[.int .u8 0] N) 5)) := fun w => by
      have h := run_make_row' (P := Try.prog) 23 5 (.int .u8 0) 1 Try.underlying23 info5 rfl .i64 .i64 N (by omega) (by omega) w
      rwa [show ((N : Nat) : Int) = (s.size : Int) + (C : Int) * 2 by omega] at h
    have hcap : ∀ k, k < s.size → cnt s 0 k ≤ C := fun k hk => by rw [hC]; exact cnt_mono s s.size k (by omega)
    have HCAP : Hid (∀ k, k < s.size → cnt s 0 k ≤ C) := hcap
    clear h0 hpos hcl hN hC hNC hcap
    go_enter Try.func11, Try.ntmps11
    go_wp2
    go_loop [3, 4] (fun n i => ∃ k c : Nat, k ≤ s.size ∧ i = .int .i64 k ∧ c ≤ k ∧ n = .int .i64 c ∧ Hid (c = cnt s 0 k)) (fun _ i => s.size - (intOf i).toNat)
    case atStart => exact ⟨0, 0, Nat.zero_le _, rfl, Nat.le_refl _, rfl, rfl⟩
    case round =>
      obtain ⟨k, c, hk, rfl, hck, rfl, HCK⟩ := hrel
      by_cases hlt : k < s.size
      · cases hm : mustE ((s[k]'hlt).toNat : Int) with
        | false =>
          have HS : Hid (cnt s 0 (k + 1) = c) := by
            show _ = c
            rw [cnt_snoc, Nat.zero_add, ← byte_at s k hlt, hm, ← HCK.out]; rfl
          go_wp2_with (go_at_call 13; refine (must_any _ _).mono ?_; rintro e w' ⟨rfl, rfl⟩)
          go_round
          case rel => exact ⟨k + 1, c, by omega, by go_num, by omega, rfl, HS.out.symm⟩
          case measure => simp [intOf]; omega
        | true =>
          have HS : Hid (cnt s 0 (k + 1) = c + 1) := by
            show _ = c + 1
            rw [cnt_snoc, Nat.zero_add, ← byte_at s k hlt, hm, ← HCK.out]; rfl
          go_wp2_with (go_at_call 13; refine (must_any _ _).mono ?_; rintro e w' ⟨rfl, rfl⟩)
          go_round
          case rel => exact ⟨k + 1, c + 1, by omega, by go_num, by omega, by go_num, HS.out.symm⟩
          case measure => simp [intOf]; omega
      · obtain rfl : k = s.size := by omega
        obtain rfl : c = C := by rw [HCK.out, HCC.out]
        have hc0 : ((c : Int) == 0) = false := by simp; omega
        go_wp2
        have hwin : w.heap.size < (w.alloc (.cells (madeCells #[.int .u8 0] N) 5)).heap.size := by simp
        go_loopw [6, 7] (fun i j wr => ∃ k jn : Nat, k ≤ s.size ∧ i = .int .i64 k ∧ j = .int .i64 jn ∧ jn ≤ 3 * k ∧ Hid (jn = (outp s 0 k).length) ∧ Hid (wr.rowIs w.heap.size 5 N (rowF s k)) ∧ Hid (Below w.heap.size w wr)) (fun i _ _ => s.size - (intOf i).toNat)
        case atStart => exact ⟨0, 0, Nat.zero_le _, rfl, rfl, Nat.le_refl _, rfl, (World.rowIs_made w _ _ _).congr (fun _ _ => rfl), (Below.refl _ _).alloc (Nat.le_refl _) _⟩
        case round =>
          obtain ⟨k, jn, hk, rfl, rfl, hj3, HJ, HR, HB⟩ := hrel
          by_cases hlt : k < s.size
          · cases hm : mustE ((s[k]'hlt).toNat : Int) with
            | false =>
              have hr1 := HR.out
              have hb : bt s (k : Int) = ((s[k]'hlt).toNat : Int) := (byte_at s k hlt).symm
              have hJ := HJ.out
              have hlen := outp_length s (k + 1) 0
              have hsn := outp_snoc s k 0
              rw [Nat.zero_add] at hsn
              have hpc : piece (bt s (k : Int)) = [bt s (k : Int)] := by unfold piece; rw [hb, hm]; rfl
              have hjN : jn < N := by
                have h1 := HCAP.out k hlt
                have h2 := outp_length s k 0
                have h3 := HN.out
                omega
              have hf1 : wr.frozen? ⟨w.heap.size, jn, none⟩ = false := hr1.frozen _
              have hc1 : wr.cell? ⟨w.heap.size, jn, none⟩ = some (rowF s k jn) := hr1.cell hjN
              have HREL : Hid (∀ x, x = ((s[k]'hlt).toNat : Int) → (wr.setCell ⟨w.heap.size, jn, none⟩ (.int .u8 x)).rowIs w.heap.size 5 N (rowF s (k + 1)) ∧ jn + 1 = (outp s 0 (k + 1)).length ∧ Below w.heap.size w (wr.setCell ⟨w.heap.size, jn, none⟩ (.int .u8 x))) := by
                intro x hx
                refine ⟨(hr1.set jn _).congr (fun i _ => ?_), ?_, HB.out.setCell (Nat.le_refl _) _⟩
                · unfold rowF
                  rw [hsn, hpc, getD_app, ← hJ, hb, hx]
                  by_cases h1 : i < jn
                  · rw [if_pos h1, if_neg (by omega)]
                  · rw [if_neg h1]
                    by_cases h2 : i = jn
                    · subst h2; simp
                    · rw [if_neg h2]
                      congr 1
                      rw [List.getD_eq_getElem?_getD, List.getElem?_eq_none (by omega)]
                      rw [List.getD_eq_getElem?_getD, List.getElem?_eq_none (by simp; omega)]
                · rw [hsn, hpc, List.length_append, ← hJ]; rfl
              clear hr1 hb hJ hlen hsn hpc
              go_wp2_with (go_at_call 13; refine (must_any _ _).mono ?_; rintro e w' ⟨rfl, rfl⟩)
              go_roundw
              case rel =>
                obtain ⟨r1, r2, r3⟩ := HREL.out _ rfl
                exact ⟨k + 1, jn + 1, by omega, by go_num, by go_num, by omega, r2, r1, r3⟩
              case measure => simp [intOf]; omega
            | true =>
              have hr1 := HR.out
              have hb : bt s (k : Int) = ((s[k]'hlt).toNat : Int) := (byte_at s k hlt).symm
              have hJ := HJ.out
              have hsn := outp_snoc s k 0
              rw [Nat.zero_add] at hsn
              obtain ⟨x1, hx1⟩ : ∃ x, x = bt hexs (bt s (k : Int) / 16) := ⟨_, rfl⟩
              obtain ⟨x2, hx2⟩ : ∃ x, x = bt hexs (Go.bits .and .u8 (bt s (k : Int)) 15) := ⟨_, rfl⟩
              have hpc : piece (bt s (k : Int)) = [92, x1, x2] := by unfold piece; rw [hb, hm, hx1, hx2, hb]; rfl
              have hjN : jn + 2 < N := by
                have h1 := HCAP.out
                have h2 := outp_length s (k + 1) 0
                have h3 := HN.out
                have h4 := cnt_mono s s.size (k + 1) (by omega)
                have h5 : (outp s 0 (k + 1)).length = jn + 3 := by rw [hsn, hpc, List.length_append, ← hJ]; rfl
                have h6 := HCC.out
                omega
              have hf1 : wr.frozen? ⟨w.heap.size, jn, none⟩ = false := hr1.frozen _
              have hc1 : wr.cell? ⟨w.heap.size, jn, none⟩ = some (rowF s k jn) := hr1.cell (by omega)
              have hf2 : ∀ v, (wr.setCell ⟨w.heap.size, jn, none⟩ v).frozen? ⟨w.heap.size, jn + 1, none⟩ = false := fun v => (hr1.set _ v).frozen _
              have hc2 : ∀ v, (wr.setCell ⟨w.heap.size, jn, none⟩ v).cell? ⟨w.heap.size, jn + 1, none⟩ = some (rowF s k (jn + 1)) := fun v => by
                have := (hr1.set jn v).cell (i := jn + 1) (by omega)
                rwa [if_neg (by omega)] at this
              have hf3 : ∀ v u, ((wr.setCell ⟨w.heap.size, jn, none⟩ v).setCell ⟨w.heap.size, jn + 1, none⟩ u).frozen? ⟨w.heap.size, jn + 2, none⟩ = false := fun v u => ((hr1.set _ v).set _ u).frozen _
              have hc3 : ∀ v u, ((wr.setCell ⟨w.heap.size, jn, none⟩ v).setCell ⟨w.heap.size, jn + 1, none⟩ u).cell? ⟨w.heap.size, jn + 2, none⟩ = some (rowF s k (jn + 2)) := fun v u => by
                have := ((hr1.set jn v).set (jn + 1) u).cell (i := jn + 2) (by omega)
                rw [if_neg (by omega), if_neg (by omega)] at this
                exact this
              have hbr := bt_range s (k : Int)
              have hlo := low4 _ hbr.1 hbr.2
              rw [hb] at hbr hlo
              have q0 : 0 ≤ ((s[k]'hlt).toNat : Int) / 16 := by omega
              have q1 : ((s[k]'hlt).toNat : Int) / 16 < 16 := by omega
              obtain ⟨q2, q3⟩ := hlo
              have HREL : Hid (∀ y1 y2, y1 = x1 → y2 = x2 → (((wr.setCell ⟨w.heap.size, jn, none⟩ (.int .u8 92)).setCell ⟨w.heap.size, jn + 1, none⟩ (.int .u8 y1)).setCell ⟨w.heap.size, jn + 2, none⟩ (.int .u8 y2)).rowIs w.heap.size 5 N (rowF s (k + 1)) ∧ jn + 3 = (outp s 0 (k + 1)).length ∧ Below w.heap.size w (((wr.setCell ⟨w.heap.size, jn, none⟩ (.int .u8 92)).setCell ⟨w.heap.size, jn + 1, none⟩ (.int .u8 y1)).setCell ⟨w.heap.size, jn + 2, none⟩ (.int .u8 y2))) := by
                intro y1 y2 hy1 hy2
                refine ⟨(((hr1.set jn _).set (jn + 1) _).set (jn + 2) _).congr (fun i _ => ?_), ?_, ((HB.out.setCell (p := ⟨w.heap.size, jn, none⟩) (Nat.le_refl _) _).setCell (p := ⟨w.heap.size, jn + 1, none⟩) (Nat.le_refl _) _).setCell (p := ⟨w.heap.size, jn + 2, none⟩) (Nat.le_refl _) _⟩
                · unfold rowF
                  rw [hsn, hpc, getD_app, ← hJ, hy1, hy2]
                  by_cases h1 : i < jn
                  · rw [if_pos h1, if_neg (by omega), if_neg (by omega), if_neg (by omega)]
                  · rw [if_neg h1]
                    by_cases h2 : i = jn + 2
                    · subst h2; simp
                    · rw [if_neg h2]
                      by_cases h3 : i = jn + 1
                      · subst h3; simp
                      · rw [if_neg h3]
                        by_cases h4 : i = jn
                        · subst h4; simp
                        · rw [if_neg h4]
                          congr 1
                          rw [List.getD_eq_getElem?_getD, List.getElem?_eq_none (by omega)]
                          rw [List.getD_eq_getElem?_getD, List.getElem?_eq_none (by simp; omega)]
                · rw [hsn, hpc, List.length_append, ← hJ]; rfl
              have HX1 : Hid (x1 = bt hexs (((s[k]'hlt).toNat : Int) / 16)) := by rw [← hb]; exact hx1
              have HX2 : Hid (x2 = bt hexs (Go.bits .and .u8 ((s[k]'hlt).toNat : Int) 15)) := by rw [← hb]; exact hx2
              have hb2 : (s[k]'hlt).toNat ≤ 255 := by omega
              clear hr1 hJ hsn hpc hx1 hx2 hbr hb
              go_wp2_with (go_at_call 13; refine (must_any _ _).mono ?_; rintro e w' ⟨rfl, rfl⟩)
              go_roundw
              case rel =>
                obtain ⟨r1, r2, r3⟩ := HREL.out _ _ rfl rfl
                have e1 := hx_nat ((s[k]'hlt).toNat / 16) (by omega) (by show _ < 16; omega)
                have e2 := hx_nat ((s[k]'hlt).toNat % 16) (by omega) (by show _ < 16; omega)
                have e3 : x1 = (((hexs[(s[k]'hlt).toNat / 16]'(by show _ < 16; omega)).toNat : Nat) : Int) := by rw [e1, HX1.out]; congr 1
                have e4 : x2 = (((hexs[(s[k]'hlt).toNat % 16]'(by show _ < 16; omega)).toNat : Nat) : Int) := by rw [e2, HX2.out, low_eq _ hb2]
                rw [e3, e4] at r1 r3
                exact ⟨k + 1, jn + 3, by omega, by go_num, by go_num, by omega, r2, r1, r3⟩
              case measure => simp [intOf]; omega
          · obtain rfl : k = s.size := by omega
            have hr1 := HR.out
            have hJ := HJ.out
            have hl := outp_length s s.size 0
            have hNJ : N = jn := by have := HN.out; have := HCC.out; omega
            have g := run_convert_bytes_arg (P := Try.prog) wr 23 5 Try.underlying23 Try.underlying5 w.heap.size 0 N N (outp s 0 s.size) (by rw [← hJ, hNJ]) (fun i hi => by rw [Nat.zero_add]; exact hr1.cell hi) 9 Try.underlying9
            clear hr1 hJ hl hNJ
            go_wp2
            go_ret
            exact ⟨rfl, HB.out⟩
end Go.Proofs.Ythlameofbhopkaa.EscWalk
