/- Parts of the proof of one law, in the order in which they build. Whole numbers as bytes: what the package's encoder and the reference's make; the contracts of encodeInteger and spec.Whole. · The reference's builders of packets: spec.Octets, List, tagged, operation, Truth, Number leave a packet that reads as the tree, in blocks from b on. Strings are at most as long as Go's own limit. · A row of packets that grows: its cells are the call's own, what the packets lead to is only read. · spec.Extended: the packet of an extended request. · spec.Control: the packet of a control. · ber.encodeIdentifier and the reference's Identifier: the same bytes, the tag's groups of seven bits with the highest first. -/
import Derived.Deep.RegionLaw
import Derived.Deep.DrawnRows
import Derived.BigRegion
import Derived.Test.YtbmcpjkhnhbjdaaDoorMsg1
import Derived.Test.YtbmcpjkhnhbjdaaDoorMsg2
import Derived.Test.YtbmcpjkhnhbjdaaDoorMsg3
import Derived.Test.YtbmcpjkhnhbjdaaDoorMsg4
import Derived.Test.YtbmcpjkhnhbjdaaDoorMsg5
namespace Go.Proofs.YtbmcpjkhnhbjdaaDoor.Num
open Go.RowKit Go.Proofs.YtbmcpjkhnhbjdaaDoorW.PrintWords Go.Proofs.YtbmcpjkhnhbjdaaDoorW.PrintLast Go.Proofs.YtbmcpjkhnhbjdaaDoorW.PrintMore Go.Proofs.YtbmcpjkhnhbjdaaDoor.PencodeInteger Go.Proofs.YtbmcpjkhnhbjdaaDoor.PFnEncode
set_option linter.unusedVariables false
set_option linter.unusedSimpArgs false

/-- how many bytes a whole number wants -/
def wl (n : Int) : Nat := if _h : -128 ≤ n ∧ n ≤ 127 then 1 else wl (n / 256) + 1
termination_by n.natAbs
decreasing_by omega

theorem wl_small {n : Int} (h : -128 ≤ n ∧ n ≤ 127) : wl n = 1 := by rw [wl, dif_pos h]
theorem wl_great {n : Int} (h : ¬ (-128 ≤ n ∧ n ≤ 127)) : wl n = wl (n / 256) + 1 := by rw [wl, dif_neg h]

theorem wl_le : ∀ (k : Nat) (n : Int), -(128 * 256 ^ k) ≤ n → n < 128 * 256 ^ k → wl n ≤ k + 1 := by
  intro k
  induction k with
  | zero => intro n h1 h2; rw [wl_small (by omega)]; omega
  | succ k ih =>
    intro n h1 h2
    by_cases hs : -128 ≤ n ∧ n ≤ 127
    · rw [wl_small hs]; omega
    · rw [wl_great hs]
      rw [Int.pow_succ] at h1 h2
      have := ih (n / 256) (by omega) (by omega)
      omega
/-- the bytes of a whole number -/
def whole (n : Int) : List Int := be n (wl n)

theorem wl_le8 (n : Int) (h : -9223372036854775808 ≤ n ∧ n ≤ 9223372036854775807) : wl n ≤ 8 := by
  have e7 : (256 : Int) ^ 7 = 72057594037927936 := by decide
  exact wl_le 7 n (by omega) (by omega)

theorem len1 (k : Nat) : ∀ (n c : Int), n ≤ 127 → -(128 * 256 ^ k) ≤ n → 0 ≤ c → c + k < 4611686018427387904 → asn1ber_int64Length.l1 (k + 1) n c = some (c + wl n - 1) := by
  induction k with
  | zero =>
    intro n c h h1 _ _
    unfold asn1ber_int64Length.l1
    rw [if_neg (by omega), wl_small (by omega)]
    congr 1; omega
  | succ k ih =>
    intro n c h h1 h0 hc
    unfold asn1ber_int64Length.l1
    by_cases hs : -128 ≤ n
    · rw [if_neg (by omega), wl_small (by omega)]
      congr 1; omega
    · rw [if_pos (by omega), wl_great (by omega)]
      rw [Int.pow_succ] at h1
      have e1 : wrap64 (c + 1) = c + 1 := by unfold wrap64; omega
      rw [e1, ih (n / 256) (c + 1) (by omega) (by omega) (by omega) (by omega)]
      congr 1; omega

theorem len0 (k : Nat) : ∀ (n c : Int) (j : Nat), -128 ≤ n → n < 128 * 256 ^ k → 0 ≤ c → c + k < 4611686018427387904 → asn1ber_int64Length.l0 (k + (j + 2)) n c = some (c + wl n - 1) := by
  induction k with
  | zero =>
    intro n c j h h1 _ _
    rw [show 0 + (j + 2) = j + 1 + 1 by omega]
    unfold asn1ber_int64Length.l0
    rw [if_neg (by omega)]
    unfold asn1ber_int64Length.l1
    rw [if_neg (by omega), wl_small (by omega)]
    congr 1; omega
  | succ k ih =>
    intro n c j h h1 h0 hc
    by_cases hs : n ≤ 127
    · rw [show k + 1 + (j + 2) = (k + j + 1) + 1 + 1 by omega]
      unfold asn1ber_int64Length.l0
      rw [if_neg (by omega)]
      unfold asn1ber_int64Length.l1
      rw [if_neg (by omega), wl_small (by omega)]
      congr 1; omega
    · rw [show k + 1 + (j + 2) = (k + (j + 2)) + 1 by omega]
      unfold asn1ber_int64Length.l0
      rw [if_pos (by omega), wl_great (by omega)]
      rw [Int.pow_succ] at h1
      have e1 : wrap64 (c + 1) = c + 1 := by unfold wrap64; omega
      rw [e1, ih (n / 256) (c + 1) j (by omega) (by omega) (by omega) (by omega)]
      congr 1; omega

theorem int_len (n : Int) (h : -9223372036854775808 ≤ n ∧ n ≤ 9223372036854775807) : asn1ber_int64Length.f 12 n = some (wl n : Int) := by
  have e7 : (256 : Int) ^ 7 = 72057594037927936 := by decide
  unfold asn1ber_int64Length.f
  by_cases hs : -128 ≤ n
  · rw [show 12 = 7 + (3 + 2) by omega, len0 7 n 1 3 hs (by omega) (by omega) (by omega)]
    congr 1; omega
  · unfold asn1ber_int64Length.l0
    rw [if_neg (by omega), at_rounds (fun k => (asn1ber_int64Length.mono_l k).2 n 1) (show 8 ≤ 11 by omega) (len1 7 n 1 (by omega) (by omega) (by omega) (by omega))]
    congr 1; omega

theorem ienc (m : Nat) : ∀ (x : Int) (j : Nat) (out : List Int), m ≤ 8 → j + m ≤ 8 → out.length = j + m →
    asn1ber_encodeInteger.l0 (m + 1) x (m : Int) out (j : Int) = some (out.take j ++ be x m) := by
  induction m with
  | zero =>
    intro x j out _ _ hl
    unfold asn1ber_encodeInteger.l0
    rw [if_neg (by omega), List.take_of_length_le (by omega)]
    simp [be]
  | succ m ih =>
    intro x j out hm hj hl
    unfold asn1ber_encodeInteger.l0
    have e1 : wrap64 (((m + 1 : Nat) : Int) - 1) = (m : Int) := by unfold wrap64; omega
    have e2 : wrap64 ((m : Int) * 8) = (m : Int) * 8 := by unfold wrap64; omega
    have e3 : IntKind.u64.wrap ((m : Int) * 8) = (m : Int) * 8 := IntWalk.u64_in _ (by omega)
    have e4 : wrap64 ((j : Int) + 1) = ((j + 1 : Nat) : Int) := by unfold wrap64; omega
    rw [e1, e2, e3, e4]
    rw [if_pos (show ((m + 1 : Nat) : Int) > 0 by omega), if_pos (show (0 : Int) ≤ (m : Int) * 8 by omega), if_pos (show (0 : Int) ≤ (j : Int) by omega), if_pos (show (j : Int) < (out.length : Int) by omega), shr_at .i64 rfl x m (by omega)]
    rw [Int.toNat_natCast, ih x (j + 1) (out.set j (x / 256 ^ m % 256)) (by omega) (by omega) (by rw [List.length_set]; omega)]
    rw [take_set_snoc _ _ _ (by omega)]
    simp [be]

theorem int_enc (n : Int) (h : -9223372036854775808 ≤ n ∧ n ≤ 9223372036854775807) : asn1ber_encodeInteger.f 12 n = some (whole n) := by
  have hn := wl_le8 n h
  unfold asn1ber_encodeInteger.f whole
  rw [int_len n h]
  simp only [Option.bind_some]
  rw [if_pos (by omega), if_pos (by omega), Int.toNat_natCast]
  have h2 := ienc (wl n) n 0 (List.replicate (wl n) 0) hn (by omega) (by simp)
  have h2' := at_rounds (fun k => (asn1ber_encodeInteger.mono_l k) n (wl n : Int) (List.replicate (wl n) 0) 0) (show wl n + 1 ≤ 12 by omega) h2
  rw [show (0 : Int) = ((0 : Nat) : Int) from rfl] at h2' ⊢
  rw [h2']; simp

theorem and128 : ∀ n : Fin 512, (Go.bits .and .i64 (((n : Nat) : Int) - 256) 128 = 0 ↔ (((n : Nat) : Int) - 256) % 256 < 128) := by decide +kernel

theorem and128_at (x : Int) (h0 : -256 ≤ x) (h1 : x ≤ 255) : (Go.bits .and .i64 x 128 = 0 ↔ x % 256 < 128) := by
  have := and128 ⟨(x + 256).toNat, by omega⟩
  simp only [Int.toNat_of_nonneg (show 0 ≤ x + 256 by omega), show x + 256 - 256 = x by omega] at this
  exact this

theorem spec_whole (k : Nat) : ∀ (n : Int) (acc : List Int), -(128 * 256 ^ k) ≤ n → n < 128 * 256 ^ k → acc.length + k < 1000 → ∀ hd, hd = n % 256 →
    spec_Whole.l0 (k + 1) n (hd :: acc) = some (be n (wl n) ++ acc) := by
  induction k with
  | zero =>
    rintro n acc h1 h2 _ hd rfl
    rw [wl_small (by omega), be_one]
    unfold spec_Whole.l0
    have ha := and128_at n (by omega) (by omega)
    by_cases hn : 0 ≤ n
    · rw [if_pos (by omega), if_pos (ha.2 (by omega))]; rfl
    · rw [if_neg (by omega), if_pos (by omega), if_neg (fun e => by have := ha.1 e; omega)]; rfl
  | succ k ih =>
    rintro n acc h1 h2 hk hd rfl
    by_cases hs : -128 ≤ n ∧ n ≤ 127
    · exact at_rounds (fun j => (spec_Whole.mono_l j) n _) (show k + 1 ≤ k + 1 + 1 by omega) (ih n acc (by rw [Int.pow_succ] at h1; have : (1 : Int) ≤ 256 ^ k := Int.pow_pos (by omega); omega) (by have : (1 : Int) ≤ 256 ^ k := Int.pow_pos (by omega); omega) (by omega) _ rfl)
    · rw [Int.pow_succ] at h1 h2
      have r := ih (n / 256) (n % 256 :: acc) (by omega) (by omega) (by simp; omega) _ rfl
      rw [wl_great hs, be_snoc, List.append_assoc, List.singleton_append]
      unfold spec_Whole.l0
      simp only [Option.bind_some]
      have hlen : ([n / 256 % 256] : List Int).length + (n % 256 :: acc).length < 140737488355328 := by simp; omega
      by_cases c1 : n / 256 = 0
      · rw [if_pos c1, if_neg (fun e => by have := (and128_at n (by omega) (by omega)).1 e; omega), if_neg (by omega), if_pos hlen]
        exact r
      · rw [if_neg c1]
        by_cases c2 : n / 256 = -1
        · rw [if_pos c2, if_pos ((and128_at n (by omega) (by omega)).2 (by omega)), if_pos hlen]
          exact r
        · rw [if_neg c2, if_pos hlen]
          exact r

theorem whole_spec (n : Int) (h : -9223372036854775808 ≤ n ∧ n ≤ 9223372036854775807) : spec_Whole.f 8 n = some (whole n) := by
  have e7 : (256 : Int) ^ 7 = 72057594037927936 := by decide
  unfold spec_Whole.f whole
  have := spec_whole 7 n [] (by omega) (by omega) (by simp) _ rfl
  rw [List.append_nil] at this
  exact this

theorem encInt_any (n : Int) (h : -9223372036854775808 ≤ n ∧ n ≤ 9223372036854775807) (w : World) : Calls Tryd.prog 109 #[.int .i64 n] w fun e w' => ∃ v, e = .returned v ∧ (Kd.int .u8).R 5 w' w.heap.size (fun _ => True) v (whole n) ∧ Below w.heap.size w w' :=
  asn1ber_encodeInteger.calls 12 n _ w (int_enc n h)
end Go.Proofs.YtbmcpjkhnhbjdaaDoor.Num
namespace Go.Proofs.YtbmcpjkhnhbjdaaDoor.Ber
open Go.RowKit Go.Proofs.YtbmcpjkhnhbjdaaDoorW.PrintWords Go.Proofs.YtbmcpjkhnhbjdaaDoor.PFnEncode Go.Proofs.YtbmcpjkhnhbjdaaDoor.Buf Go.Proofs.YtbmcpjkhnhbjdaaDoor.Pk Go.Proofs.YtbmcpjkhnhbjdaaDoor.Within Go.Proofs.YtbmcpjkhnhbjdaaDoor.Num
set_option linter.unusedVariables false
set_option linter.unusedSimpArgs false

/-- What a builder leaves: the packet x, in blocks from b on; the old memory as it was. -/
def Nw (b : Nat) (w : World) (x : S33) (e : Ending) (w' : World) : Prop :=
  ∃ A3 c3 A4 c4, e = .returned (.agg #[.int .i64 x.f0, .int .i64 x.f1, .bool x.f2, .slice A3 x.f3.length c3, .slice A4 x.f4.length c4]) ∧ x.f3.length ≤ c3 ∧ Kd.F (Kd.int .u8) w' (fun k => b ≤ k) A3 x.f3.length x.f3 ∧ x.f4.length ≤ c4 ∧ Kd.F k33 w' (fun k => b ≤ k) A4 x.f4.length x.f4 ∧ Below w.heap.size w w'

theorem nw_of {b : Nat} {w w' : World} (x : S33) {b3 b4 e3 : Nat} {ok3 ok4 : Nat → Prop} {v3 v4 : Value} (h3 : Kd.R (Kd.int .u8) e3 w' b3 ok3 v3 x.f3) (h4 : Kd.V k33 33 w' b4 ok4 v4 x.f4) (hb : Below w.heap.size w w') (o3 : ∀ k, ok3 k → b3 ≤ k → b ≤ k) (o4 : ∀ k, ok4 k → b ≤ k) :
    Nw b w x (.returned (.agg #[.int .i64 x.f0, .int .i64 x.f1, .bool x.f2, v3, v4])) w' := by
  obtain ⟨A3, c3, rfl⟩ := Kd.R_slice h3
  obtain ⟨A4, c4, rfl⟩ := Kd.V_slice h4
  exact ⟨A3, c3, A4, c4, rfl, (Kd.R_reads' h3).2.1, Kd.F_mono (Kd.R_F (Kd.R_bound h3)) (fun k hk => o3 k hk.1 hk.2.1), (Kd.V_reads' h4).2.1, Kd.F_mono (Kd.V_F h4) o4, hb⟩

theorem list_nw {b : Nat} (l : List S33) (A : Option Addr) (c : Nat) (w : World) (h : Kd.F k33 w (fun k => b ≤ k) A l.length l) (hl : l.length ≤ c) (hbw : b ≤ w.heap.size) :
    Calls Tryd.prog 48 #[.slice A l.length c] w (Nw b w ⟨0, 16, true, [], l⟩) := by
  refine (spec_List.calls (fun k => b ≤ k) A c l _ _ _ _ _ w (Kd.V_mk hl h) rfl).mono ?_
  rintro e w' ⟨v3, v4, rfl, h3, h4, hb⟩
  exact nw_of ⟨0, 16, true, [], l⟩ h3 h4 hb (fun k _ h => Nat.le_trans hbw h) (fun k hk => hk.1.elim id (fun h => Nat.le_trans hbw h))
theorem truth_nw (t : Bool) (w : World) : Calls Tryd.prog 50 #[.bool t] w (Nw w.heap.size w ⟨0, 1, false, [if t then 255 else 0], []⟩) := by
  cases t with
  | true =>
    refine (spec_Truth.calls true _ _ _ _ _ w rfl).mono ?_
    rintro e w' ⟨v3, v4, rfl, h3, h4, hb⟩
    exact nw_of ⟨0, 1, false, [255], []⟩ h3 (Kd.R_V (base' := 0) (Kd.R_bound h4)) hb (fun _ _ h => h) (fun _ h => h.2.1)
  | false =>
    refine (spec_Truth.calls false _ _ _ _ _ w rfl).mono ?_
    rintro e w' ⟨v3, v4, rfl, h3, h4, hb⟩
    exact nw_of ⟨0, 1, false, [0], []⟩ h3 (Kd.R_V (base' := 0) (Kd.R_bound h4)) hb (fun _ _ h => h) (fun _ h => h.2.1)
theorem number_nw (n : Int) (h : -9223372036854775808 ≤ n ∧ n ≤ 9223372036854775807) (w : World) : Calls Tryd.prog 54 #[.int .i64 n] w (Nw w.heap.size w ⟨0, 2, false, whole n, []⟩) := by
  have hn : spec_Number.f 8 n = some (0, 2, false, whole n, []) := by
    unfold spec_Number.f
    rw [whole_spec n h]
    rfl
  refine (spec_Number.calls 8 n _ _ _ _ _ w hn).mono ?_
  rintro e w' ⟨v3, v4, rfl, h3, h4, hb⟩
  exact nw_of ⟨0, 2, false, whole n, []⟩ h3 (Kd.R_V (base' := 0) (Kd.R_bound h4)) hb (fun _ _ h => h) (fun _ h => h.2.1)

/-- the end of a function that stores its packet and hands it back -/
theorem nw_end {b B n : Nat} {w W W3 : World} {x : S33} {A5 A6 : Option Addr} {c5 c6 : Nat} {z0 z1 z2 z3 z4 : Value} (hb : Below w.heap.size w W) (hn : w.heap.size ≤ n) (hnB : ∀ k, B ≤ k → k ≠ n) (hbB : b ≤ B)
    (hres : W.heap[n]? = some (.cells #[z0, z1, z2, z3, z4] 33 (0, 0))) (l5 : x.f3.length ≤ c5) (g5 : Kd.F (Kd.int .u8) W (fun k => B ≤ k) A5 x.f3.length x.f3) (l6 : x.f4.length ≤ c6) (g6 : Kd.F k33 W (fun k => B ≤ k) A6 x.f4.length x.f4)
    (hW3 : W3 = (((((W.setCell ⟨n, 0, none⟩ (.int .i64 x.f0)).setCell ⟨n, 1, none⟩ (.int .i64 x.f1)).setCell ⟨n, 2, none⟩ (.bool x.f2)).setCell ⟨n, 3, none⟩ (.slice A5 x.f3.length c5)).setCell ⟨n, 4, none⟩ (.slice A6 x.f4.length c6))) :
    W3.heap[n]? = some (.cells #[.int .i64 x.f0, .int .i64 x.f1, .bool x.f2, .slice A5 x.f3.length c5, .slice A6 x.f4.length c6] 33 (0, 0)) ∧ Nw b w x (.returned (.agg #[.int .i64 x.f0, .int .i64 x.f1, .bool x.f2, .slice A5 x.f3.length c5, .slice A6 x.f4.length c6])) W3 := by
  have h5 := blk_set (blk_set (blk_set (blk_set (blk_set hres 0 (.int .i64 x.f0)) 1 (.int .i64 x.f1)) 2 (.bool x.f2)) 3 (.slice A5 x.f3.length c5)) 4 (.slice A6 x.f4.length c6)
  rw [← hW3] at h5
  have key : Below w.heap.size w W3 := by
    rw [hW3]
    exact ((((hb.setCell (p := ⟨n, 0, none⟩) hn _).setCell (p := ⟨n, 1, none⟩) hn _).setCell (p := ⟨n, 2, none⟩) hn _).setCell (p := ⟨n, 3, none⟩) hn _).setCell (p := ⟨n, 4, none⟩) hn _
  have f5 : Kd.F (Kd.int .u8) W3 (fun k => B ≤ k) A5 x.f3.length x.f3 := by
    rw [hW3]
    exact Kd.F_far (Kd.F_far (Kd.F_far (Kd.F_far (Kd.F_far g5 (p := ⟨n, 0, none⟩) hnB _) (p := ⟨n, 1, none⟩) hnB _) (p := ⟨n, 2, none⟩) hnB _) (p := ⟨n, 3, none⟩) hnB _) (p := ⟨n, 4, none⟩) hnB _
  have f6 : Kd.F k33 W3 (fun k => B ≤ k) A6 x.f4.length x.f4 := by
    rw [hW3]
    exact Kd.F_far (Kd.F_far (Kd.F_far (Kd.F_far (Kd.F_far g6 (p := ⟨n, 0, none⟩) hnB _) (p := ⟨n, 1, none⟩) hnB _) (p := ⟨n, 2, none⟩) hnB _) (p := ⟨n, 3, none⟩) hnB _) (p := ⟨n, 4, none⟩) hnB _
  exact ⟨h5, A5, c5, A6, c6, rfl, l5, Kd.F_mono f5 (fun k hk => Nat.le_trans hbB hk), l6, Kd.F_mono f6 (fun k hk => Nat.le_trans hbB hk), key⟩

/-- the bytes of a text that was converted -/
theorem conv_F (W : World) (s : ByteArray) (hs : s.size ≤ 140737488355328) : Kd.F (Kd.int .u8) (Lib.bytesWorld W 5 s) (fun k => W.heap.size ≤ k) (some ⟨W.heap.size, 0, none⟩) (bytesOf s).length (bytesOf s) := by
  intro W' hW
  have h0 := bytes_reads W 5 s (by omega)
  rw [show s.size = (bytesOf s).length from (bytesOf_length s).symm] at h0
  have hc : (Kd.int .u8).C (Lib.bytesWorld W 5 s) (some ⟨W.heap.size, 0, none⟩) (bytesOf s).length (bytesOf s) := Kd.C_of_reads (d := 0) h0
  have hk : W'.heap[W.heap.size]? = (Lib.bytesWorld W 5 s).heap[W.heap.size]? := hW _ (Nat.le_refl _) (by rw [Lib.bytesWorld_size]; omega)
  obtain ⟨h1, h2, h3⟩ := hc
  refine ⟨h1, h2, fun hp => ?_⟩
  obtain ⟨ad, had, hall⟩ := h3 hp
  injection had with had
  subst had
  refine ⟨_, rfl, fun j p hj => ?_⟩
  obtain ⟨c, hc1, hc2, hc3⟩ := hall j p hj
  refine ⟨c, hc1, hc2, fun i u hu => ?_⟩
  rw [← hc3 i u hu]
  exact World.cell?_of_block (by rw [Lib.block_add]; exact hk)

set_option maxHeartbeats 1600000 in
set_option maxRecDepth 100000 in
theorem octets_nw (a0 : ByteArray) (w : World) (hs : a0.size ≤ 140737488355328) : Calls Tryd.prog 47 #[.string a0] w (Nw w.heap.size w ⟨0, 4, false, bytesOf a0, []⟩) := by
  have hcv := conv_bytes a0
  have hl : a0.size = (bytesOf a0).length := (bytesOf_length a0).symm
  obtain ⟨Z, hZ⟩ : ∃ Z : Obj, Z = (Obj.cells #[.int .i64 0, .int .i64 0, .bool false, .slice none 0 0, .slice none 0 0] 33) := ⟨_, rfl⟩
  have hz : (Lib.bytesWorld (w.alloc Z) 5 a0).heap[w.heap.size]? = some (.cells #[.int .i64 0, .int .i64 0, .bool false, .slice none 0 0, .slice none 0 0] 33 (0, 0)) := by
    rw [Lib.bytesWorld_at_old _ _ _ _ (by simp), hZ]
    exact blk_new _ _
  have hb1 : Below w.heap.size w (w.alloc Z) := below_alloc (Below.refl _ _) _
  have hb2 : Below w.heap.size w (Lib.bytesWorld (w.alloc Z) 5 a0) := bytes_below hb1 hb1.size _ _
  have hrd : Kd.F (Kd.int .u8) (Lib.bytesWorld (w.alloc Z) 5 a0) (fun k => w.heap.size + 1 ≤ k) (some ⟨w.heap.size + 1, 0, none⟩) (bytesOf a0).length (bytesOf a0) := by
    have := conv_F (w.alloc Z) a0 hs
    have e : (w.alloc Z).heap.size = w.heap.size + 1 := by simp
    rw [e] at this
    exact this
  have hcap : (bytesOf a0).length ≤ grownCap (w.alloc Z) (bytesOf a0).length 0 5 := grownCap_ge _ _ _ _
  subst hZ
  have k0 := blk_cell hz 0
  have k1 := blk_cell hz 1
  have k2 := blk_cell hz 2
  have k3 := blk_cell hz 3
  have k4 := blk_cell hz 4
  have kf0 := blk_frozen hz 0
  have kf1 := blk_frozen hz 1
  have kf2 := blk_frozen hz 2
  have kf3 := blk_frozen hz 3
  have kf4 := blk_frozen hz 4
  have HZ := Lib.hid hz
  have HB2 := Lib.hid hb2
  have HRD := Lib.hid hrd
  have HL := Lib.hid hl
  have HCAP := Lib.hid hcap
  clear hz hb1 hb2 hrd hl hcap
  go_enter Tryd.func47, Tryd.ntmps47
  go_wp2
  rw [HL.out]
  obtain ⟨h5, hend⟩ := nw_end (b := w.heap.size) (B := w.heap.size + 1) (n := w.heap.size) (x := ⟨0, 4, false, bytesOf a0, []⟩) HB2.out (Nat.le_refl _) (fun k hk => by omega) (Nat.le_succ _) HZ.out HCAP.out HRD.out (Nat.le_refl _) (Kd.F_nil _ _ _) rfl
  try simp only [Exit.inBlock, Exit.then]
  exact bodyPost_ret (results_c rfl _ _ _ _ _ _ _ rfl h5 Tryd.underlying33 rfl size33) rfl hend

/-- packets beside each other in a block -/
theorem F_block {W : World} {n b : Nat} {arr : Array Value} {xs : List S33} (hb : W.heap[n]? = some (.cells arr 33 (0, 0))) (hbn : b ≤ n) (hm : xs.length ≤ 9223372036854775807)
    (hr : Reps (fun x c => Kd.FK k33 W (fun k => b ≤ k) x c) 5 xs arr.toList) : Kd.F k33 W (fun k => b ≤ k) (some ⟨n, 0, none⟩) xs.length xs := by
  intro W' hW
  have hn : W'.heap[n]? = some (.cells arr 33 (0, 0)) := (hW n hbn (blk_lt hb)).trans hb
  refine ⟨rfl, hm, fun _ => ⟨⟨n, 0, none⟩, rfl, fun j p hj => ⟨(arr.toList.drop (j * 5)).take 5, ?_, hr.2 j p hj W' hW, fun i u hu => ?_⟩⟩⟩
  · have hjl := (List.getElem?_eq_some_iff.1 hj).1
    have := hr.1
    rw [List.length_take, List.length_drop, this]
    show min 5 (xs.length * 5 - j * 5) = 5
    omega
  · have hi : i < 5 := by
      have := (List.getElem?_eq_some_iff.1 hu).1
      rw [List.length_take] at this
      omega
    rw [List.getElem?_take_of_lt hi, List.getElem?_drop] at hu
    have := blk_cell hn (j * 5 + i)
    rw [← Array.getElem?_toList, hu] at this
    rw [← this]
    congr 1
    show Addr.add ⟨n, 0, none⟩ (j * 5 + i) = _
    unfold Addr.add
    simp
    intros
    omega

/-- one packet's cells -/
def cellsP (x : S33) (A3 : Option Addr) (c3 : Nat) (A4 : Option Addr) (c4 : Nat) : List Value := [.int .i64 x.f0, .int .i64 x.f1, .bool x.f2, .slice A3 x.f3.length c3, .slice A4 x.f4.length c4]
/-- a packet that can be laid into a block -/
def Lies (b : Nat) (W : World) (x : S33) (A3 : Option Addr) (c3 : Nat) (A4 : Option Addr) (c4 : Nat) : Prop :=
  x.f3.length ≤ c3 ∧ Kd.F (Kd.int .u8) W (fun k => b ≤ k) A3 x.f3.length x.f3 ∧ x.f4.length ≤ c4 ∧ Kd.F k33 W (fun k => b ≤ k) A4 x.f4.length x.f4
theorem Lies.below {b : Nat} {W W' : World} {x : S33} {A3 : Option Addr} {c3 : Nat} {A4 : Option Addr} {c4 : Nat} (h : Lies b W x A3 c3 A4 c4) (hb : Below W.heap.size W W') : Lies b W' x A3 c3 A4 c4 := ⟨h.1, Kd.F_below h.2.1 hb, h.2.2.1, Kd.F_below h.2.2.2 hb⟩
theorem Lies.low {b b' : Nat} {W : World} {x : S33} {A3 : Option Addr} {c3 : Nat} {A4 : Option Addr} {c4 : Nat} (h : Lies b W x A3 c3 A4 c4) (hb : b' ≤ b) : Lies b' W x A3 c3 A4 c4 := ⟨h.1, Kd.F_mono h.2.1 (fun k hk => Nat.le_trans hb hk), h.2.2.1, Kd.F_mono h.2.2.2 (fun k hk => Nat.le_trans hb hk)⟩
theorem Lies.fk {b : Nat} {W : World} {x : S33} {A3 : Option Addr} {c3 : Nat} {A4 : Option Addr} {c4 : Nat} (h : Lies b W x A3 c3 A4 c4) : Kd.FK k33 W (fun k => b ≤ k) x (cellsP x A3 c3 A4 c4) := k33_mkF W _ x h.1 h.2.1 h.2.2.1 h.2.2.2
theorem Nw.open {b : Nat} {w : World} {x : S33} {e : Ending} {w' : World} (h : Nw b w x e w') : ∃ A3 c3 A4 c4, e = .returned (.agg #[.int .i64 x.f0, .int .i64 x.f1, .bool x.f2, .slice A3 x.f3.length c3, .slice A4 x.f4.length c4]) ∧ Lies b w' x A3 c3 A4 c4 ∧ Below w.heap.size w w' := by
  obtain ⟨A3, c3, A4, c4, he, l3, h3, l4, h4, hb⟩ := h
  exact ⟨A3, c3, A4, c4, he, ⟨l3, h3, l4, h4⟩, hb⟩
theorem F2 {W : World} {n b : Nat} {x y : S33} {A3 : Option Addr} {c3 : Nat} {A4 : Option Addr} {c4 : Nat} {B3 : Option Addr} {d3 : Nat} {B4 : Option Addr} {d4 : Nat} (hb : W.heap[n]? = some (.cells #[.int .i64 x.f0, .int .i64 x.f1, .bool x.f2, .slice A3 x.f3.length c3, .slice A4 x.f4.length c4, .int .i64 y.f0, .int .i64 y.f1, .bool y.f2, .slice B3 y.f3.length d3, .slice B4 y.f4.length d4] 33 (0, 0))) (hbn : b ≤ n) (hx : Lies b W x A3 c3 A4 c4) (hy : Lies b W y B3 d3 B4 d4) : Kd.F k33 W (fun k => b ≤ k) (some ⟨n, 0, none⟩) [x, y].length [x, y] :=
  F_block hb hbn (by simp) (Reps.snoc (Reps.snoc (Reps.none _ 5) hx.fk rfl) hy.fk rfl)
/-- a string's packet -/
def tO (s : ByteArray) : S33 := ⟨0, 4, false, bytesOf s, []⟩
/-- a sequence -/
def tL (l : List S33) : S33 := ⟨0, 16, true, [], l⟩
end Go.Proofs.YtbmcpjkhnhbjdaaDoor.Ber
namespace Go.Proofs.YtbmcpjkhnhbjdaaDoor.Ber
open Go.RowKit Go.Proofs.YtbmcpjkhnhbjdaaDoorW.PrintWords Go.Proofs.YtbmcpjkhnhbjdaaDoor.PFnEncode Go.Proofs.YtbmcpjkhnhbjdaaDoor.Buf Go.Proofs.YtbmcpjkhnhbjdaaDoor.Pk Go.Proofs.YtbmcpjkhnhbjdaaDoor.Within Go.Proofs.YtbmcpjkhnhbjdaaDoor.Num
set_option linter.unusedVariables false
set_option linter.unusedSimpArgs false

/-- a packet that can be laid into a block, its memory in these blocks -/
def LiesO (ok : Nat → Prop) (W : World) (x : S33) (A3 : Option Addr) (c3 : Nat) (A4 : Option Addr) (c4 : Nat) : Prop :=
  x.f3.length ≤ c3 ∧ Kd.F (Kd.int .u8) W ok A3 x.f3.length x.f3 ∧ x.f4.length ≤ c4 ∧ Kd.F k33 W ok A4 x.f4.length x.f4
theorem Lies.o {b : Nat} {W : World} {x : S33} {A3 : Option Addr} {c3 : Nat} {A4 : Option Addr} {c4 : Nat} (h : Lies b W x A3 c3 A4 c4) : LiesO (fun k => b ≤ k ∧ k < W.heap.size) W x A3 c3 A4 c4 := ⟨h.1, Kd.F_bound h.2.1, h.2.2.1, Kd.F_bound h.2.2.2⟩
theorem LiesO.mono {ok ok' : Nat → Prop} {W : World} {x : S33} {A3 : Option Addr} {c3 : Nat} {A4 : Option Addr} {c4 : Nat} (h : LiesO ok W x A3 c3 A4 c4) (hk : ∀ k, ok k → ok' k) : LiesO ok' W x A3 c3 A4 c4 := ⟨h.1, Kd.F_mono h.2.1 hk, h.2.2.1, Kd.F_mono h.2.2.2 hk⟩
theorem LiesO.below {ok : Nat → Prop} {W W' : World} {x : S33} {A3 : Option Addr} {c3 : Nat} {A4 : Option Addr} {c4 : Nat} (h : LiesO ok W x A3 c3 A4 c4) (hb : Below W.heap.size W W') : LiesO ok W' x A3 c3 A4 c4 := ⟨h.1, Kd.F_below h.2.1 hb, h.2.2.1, Kd.F_below h.2.2.2 hb⟩
theorem LiesO.step {ok : Nat → Prop} {W W' : World} {x : S33} {A3 : Option Addr} {c3 : Nat} {A4 : Option Addr} {c4 : Nat} (h : LiesO ok W x A3 c3 A4 c4) (hb : ∀ k, ok k → k < W.heap.size → W'.heap[k]? = W.heap[k]?) : LiesO ok W' x A3 c3 A4 c4 := ⟨h.1, Kd.F_step h.2.1 hb, h.2.2.1, Kd.F_step h.2.2.2 hb⟩
set_option maxHeartbeats 1600000 in
set_option maxRecDepth 100000 in
theorem list_ex (A : Option Addr) (n c : Nat) (w : World) :
    Calls Tryd.prog 48 #[.slice A n c] w fun e w' => e = .returned (.agg #[.int .i64 0, .int .i64 16, .bool true, .slice none 0 0, .slice A n c]) ∧ Below w.heap.size w w' := by
  have h5 := blk_new w (.cells #[.int .i64 0, .int .i64 16, .bool true, .slice none 0 0, .slice A n c] 33)
  go_enter Tryd.func48, Tryd.ntmps48
  go_wp2
  try simp only [Exit.inBlock, Exit.then]
  exact bodyPost_ret (results_c rfl _ _ _ _ _ _ _ rfl h5 Tryd.underlying33 rfl size33) rfl ⟨rfl, below_alloc (Below.refl _ _) _⟩

theorem info_sp : (Tryd.prog.info? 33).map (fun i => (i.zero, i.size, i.bytes)) = some (some (.agg #[.int .i64 0, .int .i64 0, .bool false, .slice none 0 0, .slice none 0 0]), 5, 72) := by kernel_rfl
end Go.Proofs.YtbmcpjkhnhbjdaaDoor.Ber
namespace Go.Proofs.YtbmcpjkhnhbjdaaDoor.Ber
open Go.RowKit Go.Proofs.YtbmcpjkhnhbjdaaDoorW.PrintWords Go.Proofs.YtbmcpjkhnhbjdaaDoor.PFnEncode Go.Proofs.YtbmcpjkhnhbjdaaDoorW.PrintLast Go.Proofs.YtbmcpjkhnhbjdaaDoor.Tree Go.Proofs.YtbmcpjkhnhbjdaaDoor.Buf Go.Proofs.YtbmcpjkhnhbjdaaDoor.Pk Go.Proofs.YtbmcpjkhnhbjdaaDoor.Within Go.Proofs.YtbmcpjkhnhbjdaaDoor.Num
set_option linter.unusedVariables false
set_option linter.unusedSimpArgs false
/-- one element, laid into a new block -/
theorem N_one {α : Type} {d : Kd α} {e : Nat} {W0 W : World} {base : Nat} {ok : Nat → Prop} {x : α} {c : List Value} (hW : W = W0.alloc (.cells c.toArray e)) (hb : base ≤ W0.heap.size) (hok : ok W0.heap.size) (hx : Kd.FK d W0 (fun k => ok k ∧ k < W0.heap.size) x c) : Kd.N d e W base ok (.slice (some ⟨W0.heap.size, 0, none⟩) 1 1) [x] := by
  have hB : Below W0.heap.size W0 W := by rw [hW]; exact below_alloc (Below.refl _ _) _
  have hbl : W.heap[W0.heap.size]? = some (.cells c.toArray e (0, 0)) := by rw [hW]; exact blk_new _ _
  have hlen := d.K_len (Kd.FK_now hx)
  have hone := d.K_one (Kd.FK_now hx)
  refine ⟨fun k hk => ?_, [c], rfl, ⟨fun k hk => hk.symm, c, ?_, ?_⟩, fun j y c' h1 h2 => ?_⟩
  · have : W0.heap.size = k := by simpa [Value.ownBlock] using hk
    rw [← this]
    exact hok
  · exact ⟨by show c.length = 1 * d.sz; rw [hlen, Nat.one_mul], .inr ⟨W0.heap.size, 1, _, rfl, hb, hbl, Nat.le_refl _, by unfold maxLen; omega, by show c.toArray.size = 1 * d.sz; simp [hlen], by rw [List.toList_toArray, List.length_singleton, Nat.one_mul]; exact List.take_of_length_le (by rw [hlen]; exact Nat.le_refl _)⟩⟩
  · exact Reps.snoc (Reps.none _ d.sz) (p := c) ⟨rfl, hlen, hone⟩ hlen
  · rcases j with _ | j
    · have e1 : x = y := by simpa using h1
      have e2 : c = c' := by simpa using h2
      subst e1
      subst e2
      exact Kd.FK_mono (Kd.FK_below hx hB) (fun k hk => ⟨hk.1, fun he => by
        have : k = W0.heap.size := by simpa [Value.ownBlock] using he
        omega⟩)
    · simp at h1

/-- a packet in block g; its kids so far lie from lo on, not in g -/
structure AccL (lo g : Nat) (W : World) (a0 a1 : Int) (a2 : Bool) (v : Value) (l : List S33) : Prop where
  hg : W.heap[g]? = some (.cells #[.int .i64 a0, .int .i64 a1, .bool a2, .slice none 0 0, v] 33 (0, 0))
  row : Kd.N k33 33 W lo (fun k => lo ≤ k ∧ k ≠ g) v l
  le : lo ≤ g
section
variable {lo g : Nat} {W W' w1 : World} {a0 a1 : Int} {a2 : Bool} {v v1 : Value} {l : List S33}
theorem AccL.below (h : AccL lo g W a0 a1 a2 v l) (hb : Below W.heap.size W W') : AccL lo g W' a0 a1 a2 v l := ⟨blk_below h.hg hb, Kd.N_below h.row hb, h.le⟩
theorem AccL.ne (h : AccL lo g W a0 a1 a2 v l) : some g ≠ v.ownBlock := Kd.N_away h.row (fun k hk => hk.2)
theorem AccL.lt (h : AccL lo g W a0 a1 a2 v l) : g < W.heap.size := blk_lt h.hg
theorem AccL.base (h : AccL lo g W a0 a1 a2 v l) : lo ≤ W.heap.size := Nat.le_trans h.le (Nat.le_of_lt h.lt)
theorem AccL.fresh (h : AccL lo g W a0 a1 a2 v l) : ∀ k, W.heap.size ≤ k → lo ≤ k ∧ k ≠ g := fun k hk => ⟨Nat.le_trans h.base hk, by have := h.lt; omega⟩
theorem AccL.app (h : AccL lo g W a0 a1 a2 v l) {x : S33} (hR : Kd.N k33 33 w1 lo (fun k => lo ≤ k ∧ k ≠ g) v1 (l ++ [x])) (hg : W.grownBy w1 v.ownBlock) : AccL lo g (w1.setCell ⟨g, 4, none⟩ v1) a0 a1 a2 v1 (l ++ [x]) :=
  ⟨blk_set (blk_grown h.hg hg h.ne) 4 v1, Kd.N_far hR (p := ⟨g, 4, none⟩) (fun k hk => hk.2) v1, h.le⟩
theorem AccL.kid {b : Nat} {x : S33} {A3 : Option Addr} {c3 : Nat} {A4 : Option Addr} {c4 : Nat} (hx : Lies b W' x A3 c3 A4 c4) (h : AccL lo g W a0 a1 a2 v l) (hb : W.heap.size ≤ b) : Kd.FK k33 W' (fun k => (lo ≤ k ∧ k ≠ g) ∧ some k ≠ v.ownBlock) x (cellsP x A3 c3 A4 c4) :=
  Kd.FK_mono hx.fk (fun k hk => ⟨h.fresh k (Nat.le_trans hb hk), fun e => by have := Kd.N_lt h.row k e.symm; omega⟩)
theorem AccL.lies (h : AccL lo g W a0 a1 a2 v l) : ∃ A c, v = .slice A l.length c ∧ Lies lo W ⟨a0, a1, a2, [], l⟩ none 0 A c := by
  obtain ⟨A, c, rfl, hc, _⟩ := Kd.N_reads h.row
  exact ⟨A, c, rfl, Nat.le_refl _, Kd.F_nil _ _ _, hc, Kd.F_mono (Kd.N_F h.row) (fun k hk => hk.1)⟩
end
theorem str_atS {w : World} {A : Option Addr} {l : List ByteArray} (h : Kd.string.C w A l.length l) {k : Nat} (hk : k < l.length) : ∃ ad, A = some ad ∧ w.cell? (ad.add k) = some (.string l[k]) := by
  obtain ⟨ad, c, e, _, hK, hc0⟩ := Kd.C_get h (⟨#[]⟩ : ByteArray) (k : Int) (by omega) (by omega)
  refine ⟨ad, e, ?_⟩
  have hK' : c = [.string (l.getD (k : Int).toNat ⟨#[]⟩)] := hK
  rw [Int.toNat_natCast, List.getD_eq_getElem?_getD, List.getElem?_eq_getElem hk] at hK'
  have := hc0 0 (.string l[k]) (by rw [hK']; rfl)
  rw [Int.toNat_natCast] at this
  have e1 : k * Kd.string.sz + 0 = k := by show k * 1 + 0 = k; omega
  rwa [e1] at this
end Go.Proofs.YtbmcpjkhnhbjdaaDoor.Ber
namespace Go.Proofs.YtbmcpjkhnhbjdaaDoor.Ber
open Go.RowKit Go.Proofs.YtbmcpjkhnhbjdaaDoorW.PrintWords Go.Proofs.YtbmcpjkhnhbjdaaDoor.PFnEncode Go.Proofs.YtbmcpjkhnhbjdaaDoorW.PrintLast Go.Proofs.YtbmcpjkhnhbjdaaDoor.Tree Go.Proofs.YtbmcpjkhnhbjdaaDoor.Buf Go.Proofs.YtbmcpjkhnhbjdaaDoor.Pk Go.Proofs.YtbmcpjkhnhbjdaaDoor.Within Go.Proofs.YtbmcpjkhnhbjdaaDoor.Num
set_option linter.unusedVariables false
set_option linter.unusedSimpArgs false

set_option maxHeartbeats 3200000 in
set_option maxRecDepth 100000 in
theorem sCtlF_nw (oid : ByteArray) (l : List ByteArray) (A : Option Addr) (c : Nat) (w : World) (hC : Kd.string.C w A l.length l) (hoid : oid.size ≤ 1099511627776) (hl : ∀ s, s ∈ l → s.size ≤ 1099511627776) (hn : l.length ≤ 1000) :
    Calls Tryd.prog 74 #[.string oid, .bool false, .slice A l.length c] w (Nw w.heap.size w (tL ([tO oid] ++ l.map tO))) := by
  have HC := Lib.hid hC
  have HO1 : Hid (∀ W, Calls Tryd.prog 47 #[.string oid] W (Nw W.heap.size W (tO oid))) := Lib.hid (fun W => octets_nw oid W (by omega))
  have HOL : Hid (∀ s, s ∈ l → ∀ W, Calls Tryd.prog 47 #[.string s] W (Nw W.heap.size W (tO s))) := Lib.hid (fun s hs W => octets_nw s W (by have := hl s hs; omega))
  have HTT : Hid (∀ W, Calls Tryd.prog 50 #[.bool true] W (Nw W.heap.size W ⟨0, 1, false, [255], []⟩)) := Lib.hid (fun W => truth_nw true W)
  obtain ⟨p, hp⟩ : ∃ p : S33, p = ⟨0, 1, false, [255], []⟩ := ⟨_, rfl⟩
  obtain ⟨x1, hx1⟩ : ∃ x, x = tO oid := ⟨_, rfl⟩
  rw [← hp] at HTT
  rw [← hx1] at HO1 ⊢
  skip
  obtain ⟨m0, hm0⟩ : ∃ m0, m0 = [x1] := ⟨_, rfl⟩
  rw [← hm0]
  have HM0 := Lib.hid hm0
  have HML : Hid (m0.length ≤ 2) := Lib.hid (by rw [hm0]; simp)
  obtain ⟨y, hy⟩ : ∃ y, y = tL (m0 ++ l.map tO) := ⟨_, rfl⟩
  rw [← hy]
  have HY := Lib.hid hy
  clear hy hm0 hp
  obtain ⟨W0, hW0⟩ : ∃ W0, W0 = w.alloc (.cells #[.int .i64 0, .int .i64 0, .bool false, .slice none 0 0, .slice none 0 0] 33) := ⟨_, rfl⟩
  have hb0 : Below w.heap.size w W0 := by rw [hW0]; exact below_alloc (Below.refl _ _) _
  have hs0 : W0.heap.size = w.heap.size + 1 := by rw [hW0]; simp
  have HB0 := Lib.hid hb0
  have HS0 := Lib.hid hs0
  have HZ0 : Hid (W0.heap[w.heap.size]? = some (.cells #[.int .i64 0, .int .i64 0, .bool false, .slice none 0 0, .slice none 0 0] 33 (0, 0))) := Lib.hid (by rw [hW0]; exact blk_new _ _)
  have HW0 := Lib.hid hW0
  clear hx1 hC hoid hl hb0 hs0 hW0
  go_enter Tryd.func74, Tryd.ntmps74
  go_upto_region 2 with (first
    | (go_at_call 47
       rw [← HW0.out]
       with_reducible refine (HO1.out W0).mono ?_
       rintro e W1 h1
       obtain ⟨F3, f3, F4, f4, rfl, hl1, hB1⟩ := h1.open
       have HL2 := Lib.hid hl1
       have HB2 := Lib.hid hB1
       clear h1 hl1 hB1)
    | (go_at_call 48
       obtain ⟨V, hV⟩ : ∃ V, V = W1.alloc (.cells #[.int .i64 x1.f0, .int .i64 x1.f1, .bool x1.f2, .slice F3 x1.f3.length f3, .slice F4 x1.f4.length f4] 33) := ⟨_, rfl⟩
       rw [← hV]
       have hbV : Below W1.heap.size W1 V := by rw [hV]; exact below_alloc (Below.refl _ _) _
       have hsV : V.heap.size = W1.heap.size + 1 := by rw [hV]; simp
       have hN : ∀ g, W1.heap.size < g → Kd.N k33 33 V W0.heap.size (fun k => W0.heap.size ≤ k ∧ k ≠ g) (.slice (some ⟨W1.heap.size, 0, none⟩) 1 1) [x1] := fun g hg => N_one (c := cellsP x1 F3 f3 F4 f4) hV HB2.out.size ⟨HB2.out.size, by omega⟩ (Kd.FK_mono (Kd.FK_bound HL2.out.fk) (fun k hk => ⟨⟨hk.1, by omega⟩, hk.2⟩))
       with_reducible refine (list_ex (some ⟨W1.heap.size, 0, none⟩) 1 1 V).mono ?_
       rintro e W3 ⟨rfl, hB3⟩
       have hb3 := hbV.trans (hB3.mono hbV.size)
       have HN3 : Hid (Kd.N k33 33 W3 W0.heap.size (fun k => W0.heap.size ≤ k ∧ k ≠ W3.heap.size) (.slice (some ⟨W1.heap.size, 0, none⟩) 1 1) [x1]) := Lib.hid (Kd.N_below (hN W3.heap.size (by have h1 := hB3.size; have h2 := hsV; omega)) hB3)
       have HB3 := Lib.hid (HB2.out.trans (hb3.mono HB2.out.size))
       clear hV hbV hsV hN hB3 hb3))
  obtain ⟨W4, hW4⟩ : ∃ W4, W4 = W3.alloc (.cells #[.int .i64 0, .int .i64 16, .bool true, .slice none 0 0, .slice (some ⟨W1.heap.size, 0, none⟩) 1 1] 33) := ⟨_, rfl⟩
  rw [← hW4]
  have hb4 : Below W3.heap.size W3 W4 := by rw [hW4]; exact below_alloc (Below.refl _ _) _
  have HI4 : Hid (AccL W0.heap.size W3.heap.size W4 0 16 true (.slice (some ⟨W1.heap.size, 0, none⟩) 1 1) [x1]) := Lib.hid ⟨by rw [hW4]; exact blk_new _ _, Kd.N_below HN3.out hb4, HB3.out.size⟩
  have HG : Hid (w.heap.size + 1 ≤ W3.heap.size) := Lib.hid (by have := HB3.out.size; have := HS0.out; omega)
  have HB4 : Hid (Below w.heap.size w W4) := Lib.hid ((HB0.out.trans (HB3.out.mono HB0.out.size)).trans (hb4.mono (by have := HG.out; omega)))
  have HZ4 := Lib.hid (blk_below (blk_below HZ0.out HB3.out) hb4)
  clear hW4 hb4
  obtain ⟨g, hg⟩ : ∃ g, g = W3.heap.size := ⟨_, rfl⟩
  rw [← hg] at HI4 HG ⊢
  rw [HS0.out] at HI4
  clear hg
  have HI9 : Hid (AccL (w.heap.size + 1) g W4 0 16 true (.slice (some ⟨W1.heap.size, 0, none⟩) 1 1) m0) := Lib.hid (by rw [HM0.out]; exact HI4.out)
  obtain ⟨W9, hW9⟩ : ∃ W9, W9 = W4 := ⟨_, rfl⟩
  have HB9 : Hid (Below w.heap.size w W9) := Lib.hid (by rw [hW9]; exact HB4.out)
  have HZ9 : Hid (W9.heap[w.heap.size]? = some (.cells #[.int .i64 0, .int .i64 0, .bool false, .slice none 0 0, .slice none 0 0] 33 (0, 0))) := Lib.hid (by rw [hW9]; exact HZ4.out)
  rw [← hW9] at HI9 ⊢
  clear hW9
  go_wp2
  go_loopw [23] (fun i wr => ∃ k : Nat, i = .int .i64 k ∧ k ≤ l.length ∧ Hid (∃ v, AccL (w.heap.size + 1) g wr 0 16 true v (m0 ++ (l.take k).map tO)) ∧ Hid (Below (w.heap.size + 1) W9 wr)) (fun i _ => l.length - (intOf i).toNat)
  case atStart => exact ⟨0, rfl, Nat.zero_le _, Lib.hid ⟨_, by rw [List.take_zero, List.map_nil, List.append_nil]; exact HI9.out⟩, Lib.hid (Below.refl _ _)⟩
  case round =>
    obtain ⟨k, rfl, hk, HI3, HBr⟩ := hrel
    obtain ⟨v, HI9⟩ := HI3.out
    have HI := Lib.hid HI9
    clear HI3 HI9
    have HBW : Hid (Below w.heap.size w wr) := Lib.hid (HB9.out.trans (HBr.out.mono (Nat.le_succ _)))
    by_cases hlt : k < l.length
    · obtain ⟨ad, rfl, hcell⟩ := str_atS HC.out hlt
      replace hcell := (HBW.out.cell (World.block_lt_of_cell? w _ hcell)).trans hcell
      have HST : Hid ((m0 ++ (l.take k).map tO) ++ [tO l[k]] = m0 ++ (l.take (k + 1)).map tO) := Lib.hid (by rw [List.take_succ_eq_append_getElem hlt, List.map_append, List.append_assoc]; rfl)
      have HLE : Hid (((m0 ++ (l.take k).map tO).length + 1) * 72 ≤ 140737488355328) := Lib.hid (by have := HML.out; rw [List.length_append, List.length_map, List.length_take]; omega)
      have HOS := Lib.hid (HOL.out l[k] (List.getElem_mem hlt))
      obtain ⟨s, hs⟩ : ∃ s, s = l[k] := ⟨_, rfl⟩
      obtain ⟨acc, hacc⟩ : ∃ acc, acc = m0 ++ (l.take k).map tO := ⟨_, rfl⟩
      rw [← hs] at hcell HST HOS
      rw [← hacc] at HST HLE HI
      obtain ⟨p, hp⟩ : ∃ p, p = tO s := ⟨_, rfl⟩
      rw [← hp] at HST HOS
      clear hs hacc hp
      go_wp2_with fail
      have hd : Below wr.heap.size wr wr.drew := (Below.refl _ _).drew
      have HI5 := Lib.hid (HI.out.below hd)
      have HB5 : Hid (Below (w.heap.size + 1) W9 wr.drew) := Lib.hid (HBr.out.trans (hd.mono HI.out.base))
      have s4 : wr.drew.cell? ⟨g, 4, none⟩ = some v := blk_cell HI5.out.hg 4
      clear hcell hd
      refine start_ (n := 8) (S := fun w' => w'.cell? ⟨g, 4, none⟩ = some v) (ds := [7]) #[nN,nN,nN,nN,nN,nN,nN,nN] (by kernel_rfl) rfl rfl (s4) (fun hHeld => ?_)
      refine pure_ (i := 0) (N := some 27) (v := ?_) (a' := ?_) #[yY,nN,nN,nN,nN,nN,nN,nN] rfl rfl (by kernel_rfl) (fun _ _ _ h => h) (Or.inl ⟨by rfl, ?_⟩) ?_ ?_
      rotate_left
      · intro w'
        go_simp
        with_reducible rfl
      rotate_left
      · simp only [Act.put, List.setIfInBounds_toArray, List.set_cons_zero, List.set_cons_succ, i64_w, i32_w]
        rfl
      refine pure_ (i := 2) (N := some 29) (v := ?_) (a' := ?_) #[yY,nN,yY,nN,nN,nN,nN,nN] rfl rfl (by kernel_rfl) (fun _ _ _ h => h) (Or.inl ⟨by rfl, ?_⟩) ?_ ?_
      rotate_left
      · intro w'
        go_simp
        with_reducible rfl
      rotate_left
      · simp only [Act.put, List.setIfInBounds_toArray, List.set_cons_zero, List.set_cons_succ, i64_w, i32_w]
        rfl
      refine take_ (i := 1) (N := some 28) (v := ?_) (a' := ?_) #[yY,yY,yY,nN,nN,nN,nN,nN] rfl rfl (by kernel_rfl) (fun _ _ _ h => h) (Or.inl ⟨by rfl, ?_⟩) hHeld ?_ ?_
      rotate_left
      · intro w' s0
        go_simp
        with_reducible rfl
      rotate_left
      · simp only [Act.put, List.setIfInBounds_toArray, List.set_cons_zero, List.set_cons_succ, i64_w, i32_w]
        rfl
      refine one_ (i := 3) (N := some 30) #[yY,yY,yY,yY,nN,nN,nN,nN] rfl rfl (by kernel_rfl) (by decide) (fun K hK => ?_)
      refine goes_ Tryd.func47 (by kernel_rfl) rfl #[.string s] (by rfl) rfl rfl (by simp only [List.map_toArray, List.map_cons, List.map_nil]; rfl) ?_
      with_reducible refine (HOS.out wr.drew).mono ?_
      rintro e W7 h7
      obtain ⟨E3, q3, E4, q4, rfl, hl7, hB7⟩ := h7.open
      refine ⟨_, rfl, ?_⟩
      have HK7 := Lib.hid (AccL.kid hl7 HI5.out (Nat.le_refl _))
      have HI7 := Lib.hid (HI5.out.below hB7)
      have HB7 := Lib.hid (HB5.out.trans (hB7.mono HI5.out.base))
      clear h7 hl7 hB7
      refine hK.out _ _ (blk_cell HI7.out.hg 4) (fun hHeld => ?_)
      clear hK K
      refine norm_ (a' := ?_) ?_ ?_
      rotate_left
      · show Act.put _ (some 30) _ = _
        simp only [Act.put, List.setIfInBounds_toArray, List.set_cons_zero, List.set_cons_succ, i64_w, i32_w]
        rfl
      refine one_ (i := 4) (N := some 31) #[yY,yY,yY,yY,yY,nN,nN,nN] rfl rfl (by kernel_rfl) (by decide) (fun K hK => ?_)
      refine value_ (w1 := ?_) (v := ?_) (by rfl) rfl ?_ ?_
      rotate_left 2
      · go_simp
        constructor
        · rfl
        · rfl
      refine hK.out _ _ (blk_cell (blk_alloc HI7.out.hg _) 4) (fun hHeld => ?_)
      clear hK K
      refine norm_ (a' := ?_) ?_ ?_
      rotate_left
      · show Act.put _ (some 31) _ = _
        simp only [Act.put, List.setIfInBounds_toArray, List.set_cons_zero, List.set_cons_succ, i64_w, i32_w]
        rfl
      refine one_ (i := 5) (N := some 32) #[yY,yY,yY,yY,yY,yY,nN,nN] rfl rfl (by kernel_rfl) (by decide) (fun K hK => ?_)
      refine Kd.N_append_step k33 (w0 := W7) (W := W7) (w.heap.size + 1) (by rfl) (.tmp 28) (.tmp 31) 31 33 (.agg #[.int .i64 0, .int .i64 0, .bool false, .slice none 0 0, .slice none 0 0]) 72 (by rfl) Tryd.underlying31 info_sp rfl (show 0 < 5 by decide) (by decide) v acc p _ (fun k => w.heap.size + 1 ≤ k ∧ k ≠ g) _ (by rfl) (by rfl) HK7.out (fun k hk => hk) HI7.out.fresh HI7.out.row (Below.refl _ _) HI7.out.base HLE.out ?_
      intro v1 w1 hR hb hg hat
      have x0 : w1.cell? ⟨g, 4, none⟩ = some v := blk_cell (blk_grown HI7.out.hg hg HI7.out.ne) 4
      have xf : w1.frozen? ⟨g, 4, none⟩ = false := blk_frozen (blk_grown HI7.out.hg hg HI7.out.ne) 4
      obtain ⟨Aq, cq, hvq⟩ := Kd.N_slice hR
      have h8 := HI7.out.app hR hg
      have hb8 := HB7.out.trans ((hb.setCell (p := ⟨g, 4, none⟩) HI7.out.le v1))
      obtain ⟨n, hn⟩ : ∃ n, n = (acc ++ [p]).length := ⟨_, rfl⟩
      rw [← hn] at hvq
      subst hvq
      have HI8 := Lib.hid h8
      have HB8 := Lib.hid hb8
      clear hR hb hg hat hn h8 hb8
      refine hK.out _ _ (x0) (fun hHeld => ?_)
      clear hK K
      refine norm_ (a' := ?_) ?_ ?_
      rotate_left
      · show Act.put _ (some 32) _ = _
        simp only [Act.put, List.setIfInBounds_toArray, List.set_cons_zero, List.set_cons_succ, i64_w, i32_w]
        rfl
      refine pure_ (i := 6) (N := some 33) (v := ?_) (a' := ?_) #[yY,yY,yY,yY,yY,yY,yY,nN] rfl rfl (by kernel_rfl) (fun _ _ _ h => h) (Or.inl ⟨by rfl, ?_⟩) ?_ ?_
      rotate_left
      · intro w'
        go_simp
        with_reducible rfl
      rotate_left
      · simp only [Act.put, List.setIfInBounds_toArray, List.set_cons_zero, List.set_cons_succ, i64_w, i32_w]
        rfl
      refine last_ (i := 7) (N := none) #[yY,yY,yY,yY,yY,yY,yY,yY] rfl rfl (by kernel_rfl) (by decide) (fun K hK => ?_)
      refine skip_ (w1 := ?_) (by rfl) rfl ?_ ?_
      rotate_left
      · go_simp
        rfl
      refine hK.out _ _ ?_
      clear hK K
      refine done_ (by kernel_rfl) ?_
      go_wp2
      exact ⟨⟨k + 1, by first | rfl | go_num, hlt, Lib.hid ⟨_, by rw [← HST.out]; exact HI8.out⟩, HB8⟩, by simp [intOf]; omega⟩
    · obtain rfl : k = l.length := by omega
      rw [List.take_length] at HI
      obtain ⟨m, hm⟩ : ∃ m, m = m0 ++ l.map tO := ⟨_, rfl⟩
      have HYM : Hid (y = tL m) := Lib.hid (by rw [HY.out, hm])
      rw [← hm] at HI
      obtain ⟨Az, cz, hv, hlz⟩ := HI.out.lies
      subst hv
      have HLZ : Hid (Lies (w.heap.size + 1) wr (tL m) none 0 Az cz) := Lib.hid hlz
      have HZR : Hid (wr.heap[w.heap.size]? = some (.cells #[.int .i64 0, .int .i64 0, .bool false, .slice none 0 0, .slice none 0 0] 33 (0, 0))) := Lib.hid ((HBr.out.block w.heap.size (Nat.lt_succ_self _)).trans HZ9.out)
      have s0 : wr.cell? ⟨g, 0, none⟩ = some (.int .i64 0) := blk_cell HI.out.hg 0
      have s1 : wr.cell? ⟨g, 1, none⟩ = some (.int .i64 16) := blk_cell HI.out.hg 1
      have s2 : wr.cell? ⟨g, 2, none⟩ = some (.bool true) := blk_cell HI.out.hg 2
      have s3 : wr.cell? ⟨g, 3, none⟩ = some (.slice none 0 0) := blk_cell HI.out.hg 3
      have s4 : wr.cell? ⟨g, 4, none⟩ = some (.slice Az m.length cz) := blk_cell HI.out.hg 4
      have k0 : wr.cell? ⟨w.heap.size, 0, none⟩ = some (.int .i64 0) := blk_cell HZR.out 0
      have k1 : wr.cell? ⟨w.heap.size, 1, none⟩ = some (.int .i64 0) := blk_cell HZR.out 1
      have k2 : wr.cell? ⟨w.heap.size, 2, none⟩ = some (.bool false) := blk_cell HZR.out 2
      have k3 : wr.cell? ⟨w.heap.size, 3, none⟩ = some (.slice none 0 0) := blk_cell HZR.out 3
      have k4 : wr.cell? ⟨w.heap.size, 4, none⟩ = some (.slice none 0 0) := blk_cell HZR.out 4
      have kf0 := blk_frozen HZR.out 0
      have kf1 := blk_frozen HZR.out 1
      have kf2 := blk_frozen HZR.out 2
      have kf3 := blk_frozen HZR.out 3
      have kf4 := blk_frozen HZR.out 4
      clear hlz hm
      go_wp2
      obtain ⟨h5, hend⟩ := nw_end (b := w.heap.size) (B := w.heap.size + 1) (n := w.heap.size) (x := tL m) HBW.out (Nat.le_refl _) (fun k hk => by omega) (by omega) HZR.out HLZ.out.1 HLZ.out.2.1 HLZ.out.2.2.1 HLZ.out.2.2.2 rfl
      try simp only [Exit.inBlock, Exit.then]
      exact bodyPost_ret (results_c rfl _ _ _ _ _ _ _ rfl h5 Tryd.underlying33 rfl size33) rfl (by rw [HYM.out]; exact hend)

set_option maxHeartbeats 3200000 in
set_option maxRecDepth 100000 in
theorem sCtlT_nw (oid : ByteArray) (l : List ByteArray) (A : Option Addr) (c : Nat) (w : World) (hC : Kd.string.C w A l.length l) (hoid : oid.size ≤ 1099511627776) (hl : ∀ s, s ∈ l → s.size ≤ 1099511627776) (hn : l.length ≤ 1000) :
    Calls Tryd.prog 74 #[.string oid, .bool true, .slice A l.length c] w (Nw w.heap.size w (tL ([tO oid] ++ [⟨0, 1, false, [255], []⟩] ++ l.map tO))) := by
  have HC := Lib.hid hC
  have HO1 : Hid (∀ W, Calls Tryd.prog 47 #[.string oid] W (Nw W.heap.size W (tO oid))) := Lib.hid (fun W => octets_nw oid W (by omega))
  have HOL : Hid (∀ s, s ∈ l → ∀ W, Calls Tryd.prog 47 #[.string s] W (Nw W.heap.size W (tO s))) := Lib.hid (fun s hs W => octets_nw s W (by have := hl s hs; omega))
  have HTT : Hid (∀ W, Calls Tryd.prog 50 #[.bool true] W (Nw W.heap.size W ⟨0, 1, false, [255], []⟩)) := Lib.hid (fun W => truth_nw true W)
  obtain ⟨p, hp⟩ : ∃ p : S33, p = ⟨0, 1, false, [255], []⟩ := ⟨_, rfl⟩
  obtain ⟨x1, hx1⟩ : ∃ x, x = tO oid := ⟨_, rfl⟩
  rw [← hp] at HTT
  rw [← hx1] at HO1 ⊢
  rw [← hp]
  obtain ⟨m0, hm0⟩ : ∃ m0, m0 = [x1] ++ [p] := ⟨_, rfl⟩
  rw [← hm0]
  have HM0 := Lib.hid hm0
  have HML : Hid (m0.length ≤ 2) := Lib.hid (by rw [hm0]; simp)
  obtain ⟨y, hy⟩ : ∃ y, y = tL (m0 ++ l.map tO) := ⟨_, rfl⟩
  rw [← hy]
  have HY := Lib.hid hy
  clear hy hm0 hp
  obtain ⟨W0, hW0⟩ : ∃ W0, W0 = w.alloc (.cells #[.int .i64 0, .int .i64 0, .bool false, .slice none 0 0, .slice none 0 0] 33) := ⟨_, rfl⟩
  have hb0 : Below w.heap.size w W0 := by rw [hW0]; exact below_alloc (Below.refl _ _) _
  have hs0 : W0.heap.size = w.heap.size + 1 := by rw [hW0]; simp
  have HB0 := Lib.hid hb0
  have HS0 := Lib.hid hs0
  have HZ0 : Hid (W0.heap[w.heap.size]? = some (.cells #[.int .i64 0, .int .i64 0, .bool false, .slice none 0 0, .slice none 0 0] 33 (0, 0))) := Lib.hid (by rw [hW0]; exact blk_new _ _)
  have HW0 := Lib.hid hW0
  clear hx1 hC hoid hl hb0 hs0 hW0
  go_enter Tryd.func74, Tryd.ntmps74
  go_upto_region 2 with (first
    | (go_at_call 47
       rw [← HW0.out]
       with_reducible refine (HO1.out W0).mono ?_
       rintro e W1 h1
       obtain ⟨F3, f3, F4, f4, rfl, hl1, hB1⟩ := h1.open
       have HL2 := Lib.hid hl1
       have HB2 := Lib.hid hB1
       clear h1 hl1 hB1)
    | (go_at_call 48
       obtain ⟨V, hV⟩ : ∃ V, V = W1.alloc (.cells #[.int .i64 x1.f0, .int .i64 x1.f1, .bool x1.f2, .slice F3 x1.f3.length f3, .slice F4 x1.f4.length f4] 33) := ⟨_, rfl⟩
       rw [← hV]
       have hbV : Below W1.heap.size W1 V := by rw [hV]; exact below_alloc (Below.refl _ _) _
       have hsV : V.heap.size = W1.heap.size + 1 := by rw [hV]; simp
       have hN : ∀ g, W1.heap.size < g → Kd.N k33 33 V W0.heap.size (fun k => W0.heap.size ≤ k ∧ k ≠ g) (.slice (some ⟨W1.heap.size, 0, none⟩) 1 1) [x1] := fun g hg => N_one (c := cellsP x1 F3 f3 F4 f4) hV HB2.out.size ⟨HB2.out.size, by omega⟩ (Kd.FK_mono (Kd.FK_bound HL2.out.fk) (fun k hk => ⟨⟨hk.1, by omega⟩, hk.2⟩))
       with_reducible refine (list_ex (some ⟨W1.heap.size, 0, none⟩) 1 1 V).mono ?_
       rintro e W3 ⟨rfl, hB3⟩
       have hb3 := hbV.trans (hB3.mono hbV.size)
       have HN3 : Hid (Kd.N k33 33 W3 W0.heap.size (fun k => W0.heap.size ≤ k ∧ k ≠ W3.heap.size) (.slice (some ⟨W1.heap.size, 0, none⟩) 1 1) [x1]) := Lib.hid (Kd.N_below (hN W3.heap.size (by have h1 := hB3.size; have h2 := hsV; omega)) hB3)
       have HB3 := Lib.hid (HB2.out.trans (hb3.mono HB2.out.size))
       clear hV hbV hsV hN hB3 hb3))
  obtain ⟨W4, hW4⟩ : ∃ W4, W4 = W3.alloc (.cells #[.int .i64 0, .int .i64 16, .bool true, .slice none 0 0, .slice (some ⟨W1.heap.size, 0, none⟩) 1 1] 33) := ⟨_, rfl⟩
  rw [← hW4]
  have hb4 : Below W3.heap.size W3 W4 := by rw [hW4]; exact below_alloc (Below.refl _ _) _
  have HI4 : Hid (AccL W0.heap.size W3.heap.size W4 0 16 true (.slice (some ⟨W1.heap.size, 0, none⟩) 1 1) [x1]) := Lib.hid ⟨by rw [hW4]; exact blk_new _ _, Kd.N_below HN3.out hb4, HB3.out.size⟩
  have HG : Hid (w.heap.size + 1 ≤ W3.heap.size) := Lib.hid (by have := HB3.out.size; have := HS0.out; omega)
  have HB4 : Hid (Below w.heap.size w W4) := Lib.hid ((HB0.out.trans (HB3.out.mono HB0.out.size)).trans (hb4.mono (by have := HG.out; omega)))
  have HZ4 := Lib.hid (blk_below (blk_below HZ0.out HB3.out) hb4)
  clear hW4 hb4
  obtain ⟨g, hg⟩ : ∃ g, g = W3.heap.size := ⟨_, rfl⟩
  rw [← hg] at HI4 HG ⊢
  rw [HS0.out] at HI4
  clear hg
  obtain ⟨v, hv0⟩ : ∃ v, v = Value.slice (some ⟨W1.heap.size, 0, none⟩) 1 1 := ⟨_, rfl⟩
  rw [← hv0] at HI4
  clear hv0
  go_wp2_with fail
  have hd : Below W4.heap.size W4 W4.drew := (Below.refl _ _).drew
  have HI5 := Lib.hid (HI4.out.below hd)
  have HB5 : Hid (Below (w.heap.size + 1) W4 W4.drew) := Lib.hid (hd.mono HI4.out.base)
  have HLE : Hid (([x1].length + 1) * 72 ≤ 140737488355328) := Lib.hid (by simp)
  have s4 : W4.drew.cell? ⟨g, 4, none⟩ = some v := blk_cell HI5.out.hg 4
  clear hd
  refine start_ (n := 7) (S := fun w' => w'.cell? ⟨g, 4, none⟩ = some v) (ds := [6]) #[nN,nN,nN,nN,nN,nN,nN] (by kernel_rfl) rfl rfl (s4) (fun hHeld => ?_)
  refine pure_ (i := 0) (N := some 15) (v := ?_) (a' := ?_) #[yY,nN,nN,nN,nN,nN,nN] rfl rfl (by kernel_rfl) (fun _ _ _ h => h) (Or.inl ⟨by rfl, ?_⟩) ?_ ?_
  rotate_left
  · intro w'
    go_simp
    with_reducible rfl
  rotate_left
  · simp only [Act.put, List.setIfInBounds_toArray, List.set_cons_zero, List.set_cons_succ, i64_w, i32_w]
    rfl
  refine take_ (i := 1) (N := some 16) (v := ?_) (a' := ?_) #[yY,yY,nN,nN,nN,nN,nN] rfl rfl (by kernel_rfl) (fun _ _ _ h => h) (Or.inl ⟨by rfl, ?_⟩) hHeld ?_ ?_
  rotate_left
  · intro w' s0
    go_simp
    with_reducible rfl
  rotate_left
  · simp only [Act.put, List.setIfInBounds_toArray, List.set_cons_zero, List.set_cons_succ, i64_w, i32_w]
    rfl
  refine one_ (i := 2) (N := some 17) #[yY,yY,yY,nN,nN,nN,nN] rfl rfl (by kernel_rfl) (by decide) (fun K hK => ?_)
  refine goes_ Tryd.func50 (by kernel_rfl) rfl #[.bool true] (by rfl) rfl rfl (by simp only [List.map_toArray, List.map_cons, List.map_nil]; rfl) ?_
  with_reducible refine (HTT.out W4.drew).mono ?_
  rintro e W7 h7
  obtain ⟨E3, q3, E4, q4, rfl, hl7, hB7⟩ := h7.open
  refine ⟨_, rfl, ?_⟩
  have HK7 := Lib.hid (AccL.kid hl7 HI5.out (Nat.le_refl _))
  have HI7 := Lib.hid (HI5.out.below hB7)
  have HB7 := Lib.hid (HB5.out.trans (hB7.mono HI5.out.base))
  clear h7 hl7 hB7
  refine hK.out _ _ (blk_cell HI7.out.hg 4) (fun hHeld => ?_)
  clear hK K
  refine norm_ (a' := ?_) ?_ ?_
  rotate_left
  · show Act.put _ (some 17) _ = _
    simp only [Act.put, List.setIfInBounds_toArray, List.set_cons_zero, List.set_cons_succ, i64_w, i32_w]
    rfl
  refine one_ (i := 3) (N := some 18) #[yY,yY,yY,yY,nN,nN,nN] rfl rfl (by kernel_rfl) (by decide) (fun K hK => ?_)
  refine value_ (w1 := ?_) (v := ?_) (by rfl) rfl ?_ ?_
  rotate_left 2
  · go_simp
    constructor
    · rfl
    · rfl
  refine hK.out _ _ (blk_cell (blk_alloc HI7.out.hg _) 4) (fun hHeld => ?_)
  clear hK K
  refine norm_ (a' := ?_) ?_ ?_
  rotate_left
  · show Act.put _ (some 18) _ = _
    simp only [Act.put, List.setIfInBounds_toArray, List.set_cons_zero, List.set_cons_succ, i64_w, i32_w]
    rfl
  refine one_ (i := 4) (N := some 19) #[yY,yY,yY,yY,yY,nN,nN] rfl rfl (by kernel_rfl) (by decide) (fun K hK => ?_)
  refine Kd.N_append_step k33 (w0 := W7) (W := W7) (w.heap.size + 1) (by rfl) (.tmp 16) (.tmp 18) 31 33 (.agg #[.int .i64 0, .int .i64 0, .bool false, .slice none 0 0, .slice none 0 0]) 72 (by rfl) Tryd.underlying31 info_sp rfl (show 0 < 5 by decide) (by decide) v [x1] p _ (fun k => w.heap.size + 1 ≤ k ∧ k ≠ g) _ (by rfl) (by rfl) HK7.out (fun k hk => hk) HI7.out.fresh HI7.out.row (Below.refl _ _) HI7.out.base HLE.out ?_
  intro v1 w1 hR hb hg hat
  have x0 : w1.cell? ⟨g, 4, none⟩ = some v := blk_cell (blk_grown HI7.out.hg hg HI7.out.ne) 4
  have xf : w1.frozen? ⟨g, 4, none⟩ = false := blk_frozen (blk_grown HI7.out.hg hg HI7.out.ne) 4
  obtain ⟨Aq, cq, hvq⟩ := Kd.N_slice hR
  have h8 := HI7.out.app hR hg
  have hb8 := HB7.out.trans ((hb.setCell (p := ⟨g, 4, none⟩) HI7.out.le v1))
  obtain ⟨n, hn⟩ : ∃ n, n = ([x1] ++ [p]).length := ⟨_, rfl⟩
  rw [← hn] at hvq
  subst hvq
  have HI8 := Lib.hid h8
  have HB8 := Lib.hid hb8
  clear hR hb hg hat hn h8 hb8
  refine hK.out _ _ (x0) (fun hHeld => ?_)
  clear hK K
  refine norm_ (a' := ?_) ?_ ?_
  rotate_left
  · show Act.put _ (some 19) _ = _
    simp only [Act.put, List.setIfInBounds_toArray, List.set_cons_zero, List.set_cons_succ, i64_w, i32_w]
    rfl
  refine pure_ (i := 5) (N := some 20) (v := ?_) (a' := ?_) #[yY,yY,yY,yY,yY,yY,nN] rfl rfl (by kernel_rfl) (fun _ _ _ h => h) (Or.inl ⟨by rfl, ?_⟩) ?_ ?_
  rotate_left
  · intro w'
    go_simp
    with_reducible rfl
  rotate_left
  · simp only [Act.put, List.setIfInBounds_toArray, List.set_cons_zero, List.set_cons_succ, i64_w, i32_w]
    rfl
  refine last_ (i := 6) (N := none) #[yY,yY,yY,yY,yY,yY,yY] rfl rfl (by kernel_rfl) (by decide) (fun K hK => ?_)
  refine skip_ (w1 := ?_) (by rfl) rfl ?_ ?_
  rotate_left
  · go_simp
    rfl
  refine hK.out _ _ ?_
  clear hK K
  refine done_ (by kernel_rfl) ?_
  go_wp2
  obtain ⟨W9, hW9⟩ : ∃ W9, W9 = w1.setCell ⟨g, 4, none⟩ (.slice Aq n cq) := ⟨_, rfl⟩
  rw [← hW9] at HI8 HB8 ⊢
  have HI9 : Hid (AccL (w.heap.size + 1) g W9 0 16 true (.slice Aq n cq) m0) := Lib.hid (by rw [HM0.out]; exact HI8.out)
  have HB9 : Hid (Below w.heap.size w W9) := Lib.hid (HB4.out.trans (HB8.out.mono (Nat.le_succ _)))
  have HZ9 : Hid (W9.heap[w.heap.size]? = some (.cells #[.int .i64 0, .int .i64 0, .bool false, .slice none 0 0, .slice none 0 0] 33 (0, 0))) := Lib.hid ((HB8.out.block w.heap.size (Nat.lt_succ_self _)).trans HZ4.out)
  go_loopw [23] (fun i wr => ∃ k : Nat, i = .int .i64 k ∧ k ≤ l.length ∧ Hid (∃ v, AccL (w.heap.size + 1) g wr 0 16 true v (m0 ++ (l.take k).map tO)) ∧ Hid (Below (w.heap.size + 1) W9 wr)) (fun i _ => l.length - (intOf i).toNat)
  case atStart => exact ⟨0, rfl, Nat.zero_le _, Lib.hid ⟨_, by rw [List.take_zero, List.map_nil, List.append_nil]; exact HI9.out⟩, Lib.hid (Below.refl _ _)⟩
  case round =>
    obtain ⟨k, rfl, hk, HI3, HBr⟩ := hrel
    obtain ⟨v, HI9⟩ := HI3.out
    have HI := Lib.hid HI9
    clear HI3 HI9
    have HBW : Hid (Below w.heap.size w wr) := Lib.hid (HB9.out.trans (HBr.out.mono (Nat.le_succ _)))
    by_cases hlt : k < l.length
    · obtain ⟨ad, rfl, hcell⟩ := str_atS HC.out hlt
      replace hcell := (HBW.out.cell (World.block_lt_of_cell? w _ hcell)).trans hcell
      have HST : Hid ((m0 ++ (l.take k).map tO) ++ [tO l[k]] = m0 ++ (l.take (k + 1)).map tO) := Lib.hid (by rw [List.take_succ_eq_append_getElem hlt, List.map_append, List.append_assoc]; rfl)
      have HLE : Hid (((m0 ++ (l.take k).map tO).length + 1) * 72 ≤ 140737488355328) := Lib.hid (by have := HML.out; rw [List.length_append, List.length_map, List.length_take]; omega)
      have HOS := Lib.hid (HOL.out l[k] (List.getElem_mem hlt))
      obtain ⟨s, hs⟩ : ∃ s, s = l[k] := ⟨_, rfl⟩
      obtain ⟨acc, hacc⟩ : ∃ acc, acc = m0 ++ (l.take k).map tO := ⟨_, rfl⟩
      rw [← hs] at hcell HST HOS
      rw [← hacc] at HST HLE HI
      obtain ⟨p, hp⟩ : ∃ p, p = tO s := ⟨_, rfl⟩
      rw [← hp] at HST HOS
      clear hs hacc hp
      go_wp2_with fail
      have hd : Below wr.heap.size wr wr.drew := (Below.refl _ _).drew
      have HI5 := Lib.hid (HI.out.below hd)
      have HB5 : Hid (Below (w.heap.size + 1) W9 wr.drew) := Lib.hid (HBr.out.trans (hd.mono HI.out.base))
      have s4 : wr.drew.cell? ⟨g, 4, none⟩ = some v := blk_cell HI5.out.hg 4
      clear hcell hd
      refine start_ (n := 8) (S := fun w' => w'.cell? ⟨g, 4, none⟩ = some v) (ds := [7]) #[nN,nN,nN,nN,nN,nN,nN,nN] (by kernel_rfl) rfl rfl (s4) (fun hHeld => ?_)
      refine pure_ (i := 0) (N := some 27) (v := ?_) (a' := ?_) #[yY,nN,nN,nN,nN,nN,nN,nN] rfl rfl (by kernel_rfl) (fun _ _ _ h => h) (Or.inl ⟨by rfl, ?_⟩) ?_ ?_
      rotate_left
      · intro w'
        go_simp
        with_reducible rfl
      rotate_left
      · simp only [Act.put, List.setIfInBounds_toArray, List.set_cons_zero, List.set_cons_succ, i64_w, i32_w]
        rfl
      refine pure_ (i := 2) (N := some 29) (v := ?_) (a' := ?_) #[yY,nN,yY,nN,nN,nN,nN,nN] rfl rfl (by kernel_rfl) (fun _ _ _ h => h) (Or.inl ⟨by rfl, ?_⟩) ?_ ?_
      rotate_left
      · intro w'
        go_simp
        with_reducible rfl
      rotate_left
      · simp only [Act.put, List.setIfInBounds_toArray, List.set_cons_zero, List.set_cons_succ, i64_w, i32_w]
        rfl
      refine take_ (i := 1) (N := some 28) (v := ?_) (a' := ?_) #[yY,yY,yY,nN,nN,nN,nN,nN] rfl rfl (by kernel_rfl) (fun _ _ _ h => h) (Or.inl ⟨by rfl, ?_⟩) hHeld ?_ ?_
      rotate_left
      · intro w' s0
        go_simp
        with_reducible rfl
      rotate_left
      · simp only [Act.put, List.setIfInBounds_toArray, List.set_cons_zero, List.set_cons_succ, i64_w, i32_w]
        rfl
      refine one_ (i := 3) (N := some 30) #[yY,yY,yY,yY,nN,nN,nN,nN] rfl rfl (by kernel_rfl) (by decide) (fun K hK => ?_)
      refine goes_ Tryd.func47 (by kernel_rfl) rfl #[.string s] (by rfl) rfl rfl (by simp only [List.map_toArray, List.map_cons, List.map_nil]; rfl) ?_
      with_reducible refine (HOS.out wr.drew).mono ?_
      rintro e W7 h7
      obtain ⟨E3, q3, E4, q4, rfl, hl7, hB7⟩ := h7.open
      refine ⟨_, rfl, ?_⟩
      have HK7 := Lib.hid (AccL.kid hl7 HI5.out (Nat.le_refl _))
      have HI7 := Lib.hid (HI5.out.below hB7)
      have HB7 := Lib.hid (HB5.out.trans (hB7.mono HI5.out.base))
      clear h7 hl7 hB7
      refine hK.out _ _ (blk_cell HI7.out.hg 4) (fun hHeld => ?_)
      clear hK K
      refine norm_ (a' := ?_) ?_ ?_
      rotate_left
      · show Act.put _ (some 30) _ = _
        simp only [Act.put, List.setIfInBounds_toArray, List.set_cons_zero, List.set_cons_succ, i64_w, i32_w]
        rfl
      refine one_ (i := 4) (N := some 31) #[yY,yY,yY,yY,yY,nN,nN,nN] rfl rfl (by kernel_rfl) (by decide) (fun K hK => ?_)
      refine value_ (w1 := ?_) (v := ?_) (by rfl) rfl ?_ ?_
      rotate_left 2
      · go_simp
        constructor
        · rfl
        · rfl
      refine hK.out _ _ (blk_cell (blk_alloc HI7.out.hg _) 4) (fun hHeld => ?_)
      clear hK K
      refine norm_ (a' := ?_) ?_ ?_
      rotate_left
      · show Act.put _ (some 31) _ = _
        simp only [Act.put, List.setIfInBounds_toArray, List.set_cons_zero, List.set_cons_succ, i64_w, i32_w]
        rfl
      refine one_ (i := 5) (N := some 32) #[yY,yY,yY,yY,yY,yY,nN,nN] rfl rfl (by kernel_rfl) (by decide) (fun K hK => ?_)
      refine Kd.N_append_step k33 (w0 := W7) (W := W7) (w.heap.size + 1) (by rfl) (.tmp 28) (.tmp 31) 31 33 (.agg #[.int .i64 0, .int .i64 0, .bool false, .slice none 0 0, .slice none 0 0]) 72 (by rfl) Tryd.underlying31 info_sp rfl (show 0 < 5 by decide) (by decide) v acc p _ (fun k => w.heap.size + 1 ≤ k ∧ k ≠ g) _ (by rfl) (by rfl) HK7.out (fun k hk => hk) HI7.out.fresh HI7.out.row (Below.refl _ _) HI7.out.base HLE.out ?_
      intro v1 w1 hR hb hg hat
      have x0 : w1.cell? ⟨g, 4, none⟩ = some v := blk_cell (blk_grown HI7.out.hg hg HI7.out.ne) 4
      have xf : w1.frozen? ⟨g, 4, none⟩ = false := blk_frozen (blk_grown HI7.out.hg hg HI7.out.ne) 4
      obtain ⟨Aq, cq, hvq⟩ := Kd.N_slice hR
      have h8 := HI7.out.app hR hg
      have hb8 := HB7.out.trans ((hb.setCell (p := ⟨g, 4, none⟩) HI7.out.le v1))
      obtain ⟨n, hn⟩ : ∃ n, n = (acc ++ [p]).length := ⟨_, rfl⟩
      rw [← hn] at hvq
      subst hvq
      have HI8 := Lib.hid h8
      have HB8 := Lib.hid hb8
      clear hR hb hg hat hn h8 hb8
      refine hK.out _ _ (x0) (fun hHeld => ?_)
      clear hK K
      refine norm_ (a' := ?_) ?_ ?_
      rotate_left
      · show Act.put _ (some 32) _ = _
        simp only [Act.put, List.setIfInBounds_toArray, List.set_cons_zero, List.set_cons_succ, i64_w, i32_w]
        rfl
      refine pure_ (i := 6) (N := some 33) (v := ?_) (a' := ?_) #[yY,yY,yY,yY,yY,yY,yY,nN] rfl rfl (by kernel_rfl) (fun _ _ _ h => h) (Or.inl ⟨by rfl, ?_⟩) ?_ ?_
      rotate_left
      · intro w'
        go_simp
        with_reducible rfl
      rotate_left
      · simp only [Act.put, List.setIfInBounds_toArray, List.set_cons_zero, List.set_cons_succ, i64_w, i32_w]
        rfl
      refine last_ (i := 7) (N := none) #[yY,yY,yY,yY,yY,yY,yY,yY] rfl rfl (by kernel_rfl) (by decide) (fun K hK => ?_)
      refine skip_ (w1 := ?_) (by rfl) rfl ?_ ?_
      rotate_left
      · go_simp
        rfl
      refine hK.out _ _ ?_
      clear hK K
      refine done_ (by kernel_rfl) ?_
      go_wp2
      exact ⟨⟨k + 1, by first | rfl | go_num, hlt, Lib.hid ⟨_, by rw [← HST.out]; exact HI8.out⟩, HB8⟩, by simp [intOf]; omega⟩
    · obtain rfl : k = l.length := by omega
      rw [List.take_length] at HI
      obtain ⟨m, hm⟩ : ∃ m, m = m0 ++ l.map tO := ⟨_, rfl⟩
      have HYM : Hid (y = tL m) := Lib.hid (by rw [HY.out, hm])
      rw [← hm] at HI
      obtain ⟨Az, cz, hv, hlz⟩ := HI.out.lies
      subst hv
      have HLZ : Hid (Lies (w.heap.size + 1) wr (tL m) none 0 Az cz) := Lib.hid hlz
      have HZR : Hid (wr.heap[w.heap.size]? = some (.cells #[.int .i64 0, .int .i64 0, .bool false, .slice none 0 0, .slice none 0 0] 33 (0, 0))) := Lib.hid ((HBr.out.block w.heap.size (Nat.lt_succ_self _)).trans HZ9.out)
      have s0 : wr.cell? ⟨g, 0, none⟩ = some (.int .i64 0) := blk_cell HI.out.hg 0
      have s1 : wr.cell? ⟨g, 1, none⟩ = some (.int .i64 16) := blk_cell HI.out.hg 1
      have s2 : wr.cell? ⟨g, 2, none⟩ = some (.bool true) := blk_cell HI.out.hg 2
      have s3 : wr.cell? ⟨g, 3, none⟩ = some (.slice none 0 0) := blk_cell HI.out.hg 3
      have s4 : wr.cell? ⟨g, 4, none⟩ = some (.slice Az m.length cz) := blk_cell HI.out.hg 4
      have k0 : wr.cell? ⟨w.heap.size, 0, none⟩ = some (.int .i64 0) := blk_cell HZR.out 0
      have k1 : wr.cell? ⟨w.heap.size, 1, none⟩ = some (.int .i64 0) := blk_cell HZR.out 1
      have k2 : wr.cell? ⟨w.heap.size, 2, none⟩ = some (.bool false) := blk_cell HZR.out 2
      have k3 : wr.cell? ⟨w.heap.size, 3, none⟩ = some (.slice none 0 0) := blk_cell HZR.out 3
      have k4 : wr.cell? ⟨w.heap.size, 4, none⟩ = some (.slice none 0 0) := blk_cell HZR.out 4
      have kf0 := blk_frozen HZR.out 0
      have kf1 := blk_frozen HZR.out 1
      have kf2 := blk_frozen HZR.out 2
      have kf3 := blk_frozen HZR.out 3
      have kf4 := blk_frozen HZR.out 4
      clear hlz hm
      go_wp2
      obtain ⟨h5, hend⟩ := nw_end (b := w.heap.size) (B := w.heap.size + 1) (n := w.heap.size) (x := tL m) HBW.out (Nat.le_refl _) (fun k hk => by omega) (by omega) HZR.out HLZ.out.1 HLZ.out.2.1 HLZ.out.2.2.1 HLZ.out.2.2.2 rfl
      try simp only [Exit.inBlock, Exit.then]
      exact bodyPost_ret (results_c rfl _ _ _ _ _ _ _ rfl h5 Tryd.underlying33 rfl size33) rfl (by rw [HYM.out]; exact hend)

end Go.Proofs.YtbmcpjkhnhbjdaaDoor.Ber
namespace Go.Proofs.YtbmcpjkhnhbjdaaDoor.Ident
open Go.RowKit Go.Proofs.YtbmcpjkhnhbjdaaDoorW.PrintWords Go.Proofs.YtbmcpjkhnhbjdaaDoor.Num
set_option linter.unusedVariables false
set_option linter.unusedSimpArgs false

/-- the groups of seven bits, the lowest first: all but that bear the bit of continuation -/
def dig (t : Int) : Nat → Int
  | 0 => t % 128
  | i + 1 => t / 128 ^ (i + 1) % 128 + 128
def low (t : Int) (n : Nat) : List Int := (List.range n).map (dig t)
theorem low_length (t : Int) (n : Nat) : (low t n).length = n := by simp [low]
theorem low_snoc (t : Int) (n : Nat) : low t (n + 1) = low t n ++ [dig t n] := by simp [low, List.range_succ]
/-- how many groups -/
def ng (x : Nat) : Nat := if _h : x = 0 then 0 else ng (x / 128) + 1
decreasing_by omega
theorem ng_zero : ng 0 = 0 := by rw [ng, dif_pos rfl]
theorem ng_pos {x : Nat} (h : x ≠ 0) : ng x = ng (x / 128) + 1 := by rw [ng, dif_neg h]
theorem ng_le : ∀ (k x : Nat), x < 128 ^ k → ng x ≤ k := by
  intro k
  induction k with
  | zero => intro x h; have : x = 0 := by simpa using h
            rw [this, ng_zero]; exact Nat.le_refl _
  | succ k ih =>
    intro x h
    by_cases h0 : x = 0
    · rw [h0, ng_zero]; omega
    · rw [ng_pos h0]
      have := ih (x / 128) (by rw [Nat.pow_succ] at h; omega)
      omega

theorem or128' : ∀ n : Fin 128, Go.bits .or .u64 ((n : Nat) : Int) 128 = ((n : Nat) : Int) + 128 := by decide +kernel
theorem and_low (x : Nat) (hx : x < 18446744073709551616) : Go.bits .and .u64 (x : Int) 127 = ((x % 128 : Nat) : Int) := by
  show IntKind.u64.wrap ((BitVec.ofInt 64 (x : Int) &&& BitVec.ofInt 64 127).toNat : Int) = _
  rw [BitVec.toNat_and, BitVec.toNat_ofInt, BitVec.toNat_ofInt]
  have e0 : ((2 ^ 64 : Nat) : Int) = 18446744073709551616 := by decide
  rw [e0]
  have e1 : ((x : Int) % 18446744073709551616).toNat = x := by omega
  have e2 : ((127 : Int) % 18446744073709551616).toNat = 2 ^ 7 - 1 := by decide
  rw [e1, e2, Nat.and_two_pow_sub_one_eq_mod]
  show IntKind.u64.wrap _ = _
  rw [IntKind.wrap_u64]
  omega

def natT : Value → Nat
  | .int _ n => n.toNat
  | _ => 0
/-- a row after so many swaps of its ends -/
def sw (L : List Int) : Nat → List Int
  | 0 => L
  | i + 1 => ((sw L i).set i (rd (sw L i) ((L.length : Int) - 1 - i))).set (L.length - 1 - i) (rd (sw L i) (i : Int))
theorem sw_all (L : List Int) (h1 : 1 ≤ L.length) (h4 : L.length ≤ 4) : sw L (L.length / 2) = L.reverse := by
  match L, h1, h4 with
  | [a], _, _ => simp [sw]
  | [a, b], _, _ => simp [sw, rd]
  | [a, b, c], _, _ => simp [sw, rd]
  | [a, b, c, d], _, _ => simp [sw, rd]
theorem info8 : (Tryd.prog.info? 5).map (fun i => (i.zero, i.size, i.bytes)) = some (some (.int .u8 0), 1, 1) := by kernel_rfl

theorem round_end {t j x : Nat} {w w1 : World} {v1 : Value} {y : Int} (hx : x = t / 128 ^ j) (hn : ng x + j = ng t) (hz : x ≠ 0) (hown : w1.ownsRow w.heap.size 5 1 v1 (low t j ++ [y]).length (nums .u8 (low t j ++ [y]))) (hB : Below w.heap.size w w1) (hy : y = dig t j) :
    (∃ j, Value.int .u64 ((x : Int) / 128) = Value.int .u64 ((t / 128 ^ j : Nat) : Int) ∧ Hid (ng (t / 128 ^ j) + j = ng t) ∧ Hid (w1.ownsRow w.heap.size 5 1 v1 (low t j).length (nums .u8 (low t j))) ∧ Hid (Below w.heap.size w w1)) ∧
      ng (natT (Value.int .u64 ((x : Int) / 128))) < ng (natT (Value.int .u64 (x : Int))) := by
  have e : t / 128 ^ (j + 1) = x / 128 := by rw [hx, Nat.pow_succ, Nat.div_div_eq_div_mul]
  have h1 := ng_pos hz
  refine ⟨⟨j + 1, by rw [e]; push_cast; rfl, Lib.hid (by rw [e]; omega), Lib.hid (by rw [low_snoc, ← hy]; exact hown), Lib.hid hB⟩, ?_⟩
  show ng ((x : Int) / 128).toNat < ng (x : Int).toNat
  rw [Int.toNat_natCast, show ((x : Int) / 128).toNat = x / 128 by omega]
  omega

theorem swap_end {w wr W5 : World} {gb j i c : Nat} {L : List Int} (hL : L.length = j) (hi : i < j / 2) (HO : wr.ownsRow w.heap.size 5 1 (.slice (some ⟨gb, 0, none⟩) j c) j (nums .u8 (sw L i))) (HB : Below w.heap.size w wr)
    (hW : W5 = ((wr.setCell ⟨gb, i, none⟩ (.int .u8 (rd (sw L i) ((j : Int) - 1 - i)))).setCell ⟨gb, j - 1 - i, none⟩ (.int .u8 (rd (sw L i) (i : Int)))).drew) :
    W5.ownsRow w.heap.size 5 1 (.slice (some ⟨gb, 0, none⟩) j c) j (nums .u8 (sw L (i + 1))) ∧ Below w.heap.size w W5 := by
  have hgb : w.heap.size ≤ gb := by
    rcases HO.2 with ⟨hv, _⟩ | ⟨g', _, _, hv, hg, _⟩
    · cases hv
    · injection hv with hv; injection hv with hv; injection hv with hv; omega
  have h1 := (own_store HO (i : Int) (rd (sw L i) ((j : Int) - 1 - i))).1
  rw [Int.toNat_natCast] at h1
  have h2 := (own_store h1 ((j - 1 - i : Nat) : Int) (rd (sw L i) (i : Int))).1
  rw [Int.toNat_natCast] at h2
  rw [hW]
  refine ⟨?_, ((HB.setCell (p := ⟨gb, i, none⟩) hgb _).setCell (p := ⟨gb, j - 1 - i, none⟩) hgb _).drew⟩
  rw [sw, hL]
  exact h2.drew

set_option maxHeartbeats 6400000 in
set_option maxRecDepth 100000 in
theorem high_any (t : Nat) (ht : t < 268435456) (h0 : 0 < t) (w : World) :
    Calls Tryd.prog 118 #[.int .u64 t] w fun e w' => ∃ v, e = .returned v ∧ w'.ownsRow w.heap.size 5 1 v (ng t) (nums .u8 (low t (ng t)).reverse) ∧ Below w.heap.size w w' := by
  obtain ⟨i0, hi, hz0, hz1, hz2⟩ := info_parts info8
  obtain ⟨M, hM⟩ : ∃ M, M = madeCells (Value.int .u8 0).cells ((4 : Int).toNat * i0.size) := ⟨_, rfl⟩
  have hMs : M.size = 4 := by rw [hM, size_madeCells, hz1]; rfl
  have hmk : ∀ W : World, (Instr.makeSlice 24 (.int .i64 0) (.int .i64 4)).run Tryd.prog W = .ok (.slice (some ⟨W.heap.size, 0, none⟩) 0 4) (W.alloc (.cells M 5)) := fun W => by
    have h := run_makeSlice (P := Tryd.prog) W 24 5 i0 (.int .u8 0) Tryd.underlying24 hi hz0 .i64 .i64 0 4 (by omega) (by omega) (by rw [hz1]; decide) (by rw [hz2]; decide) (by decide)
    rw [← hM] at h
    simpa using h
  have hM2 := Lib.hid hMs
  clear hM hi hz0 hz1 hz2
  go_enter Tryd.func118, Tryd.ntmps118
  go_wp2
  have hst : (w.alloc (.cells M 5)).ownsRow w.heap.size 5 1 (.slice (some ⟨w.heap.size, 0, none⟩) 0 4) 0 (nums .u8 (low t 0)) := by
    refine ⟨by simp [low, nums], .inr ⟨w.heap.size, 4, M, rfl, Nat.le_refl _, blk_new _ _, ?_⟩⟩
    simp [hMs, low, nums, maxLen]
  have HST := Lib.hid hst
  clear hst
  go_loopw [0, 3] (fun tv bv wr => ∃ j : Nat, tv = .int .u64 ((t / 128 ^ j : Nat) : Int) ∧ Hid (ng (t / 128 ^ j) + j = ng t) ∧ Hid (wr.ownsRow w.heap.size 5 1 bv (low t j).length (nums .u8 (low t j))) ∧ Hid (Below w.heap.size w wr)) (fun tv _ _ => ng (natT tv))
  case atStart => exact ⟨0, by simp, Lib.hid (by simp), HST, Lib.hid (below_alloc (Below.refl _ _) _)⟩
  case round =>
    obtain ⟨j, rfl, HN, HO, HB⟩ := hrel
    obtain ⟨A, c, rfl⟩ := own_slice HO.out
    have hlen := low_length t j
    obtain ⟨x, hx⟩ : ∃ x, x = t / 128 ^ j := ⟨_, rfl⟩
    rw [← hx] at HN ⊢
    have hxt : x ≤ t := by rw [hx]; exact Nat.div_le_self _ _
    have HX := Lib.hid hx
    clear hx
    by_cases hz : x = 0
    · subst hz
      have hjn : j = ng t := by have := HN.out; rw [ng_zero] at this; omega
      have hj1 : 1 ≤ j := by
        rw [hjn, ng_pos (by omega)]
        omega
      have hj4 : j ≤ 4 := by have := ng_le 4 t (by omega); omega
      obtain ⟨gb, rfl⟩ : ∃ gb, A = some ⟨gb, 0, none⟩ := by
        rcases HO.out.2 with ⟨hv, hl⟩ | ⟨gb, _, _, hv, _⟩
        · injection hv with _ hv
          omega
        · injection hv with hv
          exact ⟨gb, hv⟩
      have HJ := Lib.hid hjn
      clear hjn
      rw [hlen] at HO
      have HL := Lib.hid hlen
      have hw1 : wrap64 ((j : Int) - 1) = (j : Int) - 1 := by unfold wrap64; omega
      rw [hlen]
      clear hlen
      go_wp2
      go_loopw [5] (fun iv wr2 => ∃ i : Nat, iv = .int .i64 i ∧ i ≤ j / 2 ∧ Hid (wr2.ownsRow w.heap.size 5 1 (.slice (some ⟨gb, 0, none⟩) j c) j (nums .u8 (sw (low t j) i))) ∧ Hid (Below w.heap.size w wr2)) (fun iv _ => j / 2 - (intOf iv).toNat)
      case atStart => exact ⟨0, rfl, Nat.zero_le _, HO, HB⟩
      case round =>
        obtain ⟨i, rfl, hi, HO2, HB2⟩ := hrel
        by_cases hlt : i < j / 2
        · have hb1 : (0 : Int) ≤ (j : Int) - 1 - i := by omega
          have hb2 : (j : Int) - 1 - i < j := by omega
          have hb3 : (i : Int) < j := by omega
          obtain ⟨hc1, hf1⟩ := own_at HO2.out ((j : Int) - 1 - i) hb1 hb2
          have hn1 : ((j : Int) - 1 - i).toNat = j - 1 - i := by omega
          rw [hn1] at hc1 hf1
          obtain ⟨hc2, hf2⟩ := own_at HO2.out (i : Int) (by omega) hb3
          rw [Int.toNat_natCast] at hc2 hf2
          have hw2 : wrap64 ((j : Int) - 1 - i) = (j : Int) - 1 - i := by unfold wrap64; omega
          go_wp2
          go_region
          generalize hW5 : World.drew _ = W5
          obtain ⟨h1, h2⟩ := swap_end HL.out hlt HO2.out HB2.out hW5.symm
          have H1 := Lib.hid h1
          have H2 := Lib.hid h2
          clear h1 h2 hW5
          have hw3 : wrap64 ((i : Int) + 1) = ((i + 1 : Nat) : Int) := by unfold wrap64; omega
          go_wp2
          exact ⟨⟨i + 1, rfl, by omega, H1, H2⟩, by simp only [intOf, Int.toNat_natCast]; omega⟩
        · obtain rfl : i = j / 2 := by omega
          go_wp2
          go_ret
          refine ⟨_, rfl, ?_, HB2.out⟩
          have := HO2.out
          rw [← HJ.out, ← sw_all _ (by rw [HL.out]; exact hj1) (by rw [HL.out]; exact hj4), HL.out]
          exact this
    · have hj4 : j ≤ 4 := by have := ng_le 4 t (by omega); have := HN.out; omega
      have e1 : Go.bits .and .u64 (x : Int) 127 = (x : Int) % 128 := by
        rw [and_low x (by omega)]
        push_cast
        rfl
      have e2 : Go.bits .or .u64 ((x : Int) % 128) 128 = (x : Int) % 128 + 128 := by
        have := or128' ⟨x % 128, Nat.mod_lt _ (by omega)⟩
        simpa using this
      have e3 : ((x : Int) % 128) % 256 = (x : Int) % 128 := by omega
      have e4 : ((x : Int) % 128 + 128) % 256 = (x : Int) % 128 + 128 := by omega
      by_cases hj : j = 0
      · subst hj
        go_wp2_with (at_builtin; refine print_append_num (w0 := w) w.heap.size rfl (.tmp 19) (.tmp 22) 24 5 .u8 1 rfl Tryd.underlying24 info8 (by decide) _ (low t 0) _ rfl rfl HO.out HB.out HB.out.size (by rw [low_length]; omega) ?_; intro v1 w1 hown hB hg hat)
        exact round_end HX.out HN.out hz hown hB (by have h := HX.out; simp only [Nat.pow_zero, Nat.div_one] at h; rw [dig, h])
      · go_wp2_with (at_builtin; refine print_append_num (w0 := w) w.heap.size rfl (.tmp 19) (.tmp 22) 24 5 .u8 1 rfl Tryd.underlying24 info8 (by decide) _ (low t j) _ rfl rfl HO.out HB.out HB.out.size (by rw [low_length]; omega) ?_; intro v1 w1 hown hB hg hat)
        exact round_end HX.out HN.out hz hown hB (by
          obtain ⟨i, rfl⟩ : ∃ i, j = i + 1 := ⟨j - 1, by omega⟩
          have h : ((x : Nat) : Int) = (t : Int) / 128 ^ (i + 1) := by rw [HX.out]; push_cast; rfl
          rw [dig, ← h])
end Go.Proofs.YtbmcpjkhnhbjdaaDoor.Ident

namespace Go.Proofs.YtbmcpjkhnhbjdaaDoor.Ident
open Go.RowKit Go.Proofs.YtbmcpjkhnhbjdaaDoorW.PrintWords Go.Proofs.YtbmcpjkhnhbjdaaDoor.Num Go.Proofs.YtbmcpjkhnhbjdaaDoor.PFnEncode
set_option linter.unusedVariables false
set_option linter.unusedSimpArgs false

/-- the first byte without the tag -/
def cb (cls : Int) (c : Bool) : Int := cls * 64 + (if c then 32 else 0)
/-- the bytes of an identifier -/
def identT (cls tag : Int) (c : Bool) : List Int :=
  if tag < 31 then [cb cls c + tag] else (cb cls c + 31) :: (low tag (ng tag.toNat)).reverse

theorem or_a : ∀ n : Fin 256, Go.bits .or .u8 0 ((n : Nat) : Int) = ((n : Nat) : Int) := by decide +kernel
theorem or_b : ∀ n : Fin 4, Go.bits .or .u8 (((n : Nat) : Int) * 64) 32 = ((n : Nat) : Int) * 64 + 32 := by decide +kernel
theorem or_c : ∀ n : Fin 4, Go.bits .or .u8 (((n : Nat) : Int) * 64) 0 = ((n : Nat) : Int) * 64 := by decide +kernel
theorem or_d : ∀ (n : Fin 8) (t : Fin 32), Go.bits .or .u8 (((n : Nat) : Int) * 32) ((t : Nat) : Int) = ((n : Nat) : Int) * 32 + ((t : Nat) : Int) := by decide +kernel
theorem or_e : ∀ n : Fin 128, Go.bits .or .u8 128 ((n : Nat) : Int) = ((n : Nat) : Int) + 128 := by decide +kernel

theorem or_cb (cls : Int) (c : Bool) (t : Int) (h0 : 0 ≤ cls) (h1 : cls ≤ 3) (t0 : 0 ≤ t) (t1 : t < 32) : Go.bits .or .u8 (cb cls c) t = cb cls c + t := by
  have := or_d ⟨(cls * 2 + (if c then 1 else 0)).toNat, by split <;> omega⟩ ⟨t.toNat, by omega⟩
  simp only [Int.toNat_of_nonneg t0] at this
  have e : (((cls * 2 + (if c then 1 else 0)).toNat : Nat) : Int) * 32 = cb cls c := by
    unfold cb
    split <;> omega
  rwa [e] at this

theorem identT_le' (a b : Int) (c : Bool) (h0 : 0 ≤ b) (h : b < 268435456) : (identT a b c).length ≤ 5 := by
  unfold identT
  split
  · simp
  · have := ng_le 4 b.toNat (by omega)
    simp [low_length]
    exact this
end Go.Proofs.YtbmcpjkhnhbjdaaDoor.Ident

namespace Go.Proofs.YtbmcpjkhnhbjdaaDoor.Ident
open Go.RowKit Go.Proofs.YtbmcpjkhnhbjdaaDoorW.PrintWords Go.Proofs.YtbmcpjkhnhbjdaaDoor.Num
set_option linter.unusedVariables false
set_option linter.unusedSimpArgs false

/-- the state between the regions: the argument's box and the row of one byte -/
structure St (w W : World) (cv tv gv : Value) (a : Int) : Prop where
  box : W.heap[w.heap.size]? = some (.cells #[cv, tv, gv] 152 (0, 0))
  row : W.ownsRow w.heap.size 5 1 (.slice (some ⟨w.heap.size + 1, 0, none⟩) 1 1) 1 (nums .u8 [a])
  below : Below w.heap.size w W

theorem st_first (w : World) (cv tv gv : Value) : St w ((w.alloc (.cells #[cv, tv, gv] 152)).alloc (.cells #[.int .u8 0] 5)) cv tv gv 0 := by
  refine ⟨?_, ⟨by simp [nums], .inr ⟨w.heap.size + 1, 1, #[.int .u8 0], rfl, by omega, ?_, by simp [nums], by unfold maxLen; omega, rfl, rfl⟩⟩, below_alloc (below_alloc (Below.refl _ _) _) _⟩
  · exact blk_alloc (blk_new _ _) _
  · have := blk_new (w.alloc (.cells #[cv, tv, gv] 152)) (.cells #[.int .u8 0] 5)
    simpa using this

theorem St.at {w W : World} {cv tv gv : Value} {a : Int} (h : St w W cv tv gv a) : W.cell? ⟨w.heap.size + 1, 0, none⟩ = some (.int .u8 a) ∧ W.frozen? ⟨w.heap.size + 1, 0, none⟩ = false := by
  have := own_at h.row (0 : Int) (by omega) (by omega)
  simpa [rd] using this

theorem St.step {w W W' : World} {cv tv gv : Value} {a b : Int} (h : St w W cv tv gv a) (hW : W' = W.setCell ⟨w.heap.size + 1, 0, none⟩ (.int .u8 b) ∨ W' = (W.setCell ⟨w.heap.size + 1, 0, none⟩ (.int .u8 b)).drew) : St w W' cv tv gv b := by
  have h1 := (own_store h.row (0 : Int) b).1
  have h2 : (W.setCell ⟨w.heap.size + 1, 0, none⟩ (.int .u8 b)).heap[w.heap.size]? = some (.cells #[cv, tv, gv] 152 (0, 0)) := (Below.heap_setCell W ⟨w.heap.size + 1, 0, none⟩ _ _ (by show w.heap.size ≠ w.heap.size + 1; omega)).trans h.box
  have h3 := h.below.setCell (p := ⟨w.heap.size + 1, 0, none⟩) (Nat.le_succ _) (.int .u8 b)
  rcases hW with rfl | rfl
  · exact ⟨h2, h1, h3⟩
  · exact ⟨h2, h1.drew, h3.drew⟩

set_option maxHeartbeats 6400000 in
set_option maxRecDepth 100000 in
theorem ident_any (cls tag : Int) (c : Bool) (h0 : 0 ≤ cls) (h1 : cls ≤ 3) (t0 : 0 ≤ tag) (t1 : tag < 268435456) (w : World) :
    Calls Tryd.prog 114 #[.agg #[.int .u8 (cls * 64), .int .u8 (if c then 32 else 0), .int .u64 tag]] w fun e w' => ∃ v, e = .returned v ∧ w'.ownsRow w.heap.size 5 1 v (identT cls tag c).length (nums .u8 (identT cls tag c)) ∧ Below w.heap.size w w' := by
  obtain ⟨T, hT⟩ : ∃ T : Int, T = if c then 32 else 0 := ⟨_, rfl⟩
  obtain ⟨C, hC⟩ : ∃ C : Int, C = cls * 64 := ⟨_, rfl⟩
  have b1 : Go.bits .or .u8 0 C = C := by
    have e := or_a ⟨(cls * 64).toNat, by omega⟩
    simp only [Int.toNat_of_nonneg (show 0 ≤ cls * 64 by omega)] at e
    rw [hC]; exact e
  obtain ⟨S, hS⟩ : ∃ S : Int, S = cb cls c := ⟨_, rfl⟩
  have b2 : Go.bits .or .u8 C T = S := by
    rw [hC, hT, hS]
    cases c with
    | true =>
      have e := or_b ⟨cls.toNat, by omega⟩
      simp only [Int.toNat_of_nonneg h0] at e
      exact e
    | false =>
      have e := or_c ⟨cls.toNat, by omega⟩
      simp only [Int.toNat_of_nonneg h0] at e
      simpa [cb] using e
  have b4 : Go.bits .or .u8 S 31 = S + 31 := by rw [hS]; exact or_cb cls c 31 h0 h1 (by omega) (by omega)
  obtain ⟨fin, hfin⟩ : ∃ fin, fin = identT cls tag c := ⟨_, rfl⟩
  rw [← hT, ← hC, ← hfin]
  have HF := Lib.hid hfin
  have HS := Lib.hid hS
  clear hT hC hfin hS
  go_enter Tryd.func114, Tryd.ntmps114
  go_wp2
  have st := st_first w (.int .u8 C) (.int .u8 T) (.int .u64 tag)
  obtain ⟨W1, hW1⟩ : ∃ W1, W1 = (w.alloc (.cells #[.int .u8 C, .int .u8 T, .int .u64 tag] 152)).alloc (.cells #[.int .u8 0] 5) := ⟨_, rfl⟩
  rw [← hW1] at st ⊢
  obtain ⟨k1, k2⟩ := st.at
  have k3 : W1.cell? ⟨w.heap.size, 0, none⟩ = some (.int .u8 C) := blk_cell st.box 0
  clear hW1
  go_region
  generalize hW2 : World.drew _ = W2
  have st2 := st.step (b := C) (.inr hW2.symm)
  clear hW2 k1 k2 k3 st
  obtain ⟨k1, k2⟩ := st2.at
  have k3 : W2.cell? ⟨w.heap.size, 1, none⟩ = some (.int .u8 T) := blk_cell st2.box 1
  go_wp2
  go_region
  generalize hW3 : World.drew _ = W3
  have st3 := st2.step (b := S) (.inr hW3.symm)
  clear hW3 k1 k2 k3 st2
  obtain ⟨k1, k2⟩ := st3.at
  have k3 : W3.cell? ⟨w.heap.size, 2, none⟩ = some (.int .u64 tag) := blk_cell st3.box 2
  by_cases ht : tag < 31
  · have hm : tag % 256 = tag := by omega
    have b3 : Go.bits .or .u8 S tag = S + tag := by rw [HS.out]; exact or_cb cls c tag h0 h1 t0 (by omega)
    go_wp2
    go_region
    generalize hW4 : World.drew _ = W4
    have st4 := st3.step (b := S + tag) (.inr hW4.symm)
    clear hW4 k1 k2 k3 st3
    go_wp2
    go_ret
    refine ⟨_, rfl, ?_, st4.below⟩
    rw [HF.out, identT, if_pos ht, ← HS.out]
    exact st4.row
  · have hcall := fun W => high_any tag.toNat (by omega) (by omega) W
    simp only [Int.toNat_of_nonneg t0] at hcall
    have HC := Lib.hid hcall
    clear hcall
    go_wp2_with (first
      | (at_builtin
         refine print_append_row (w0 := w) w.heap.size rfl (.tmp 38) (.tmp 40) 24 5 .u8 1 rfl Tryd.underlying24 info8 (by decide) _ [S + 31] (low tag (ng tag.toNat)).reverse _ _ _ rfl rfl R5.out RD5.out HB5.out HB5.out.size (by simp [low_length] at *; omega) ?_
         intro v1 w1 hown hB hg hat)
      | (go_at_call 118
         generalize hW4 : World.setCell W3 _ _ = W4
         have st4 := st3.step (b := S + 31) (.inl hW4.symm)
         clear hW4 k1 k2 k3 st3
         refine (HC.out W4).mono ?_
         rintro e w5 ⟨v5, rfl, hown5, hB5⟩
         have R5 := Lib.hid (pw_own_below st4.row hB5)
         have HB5 := Lib.hid (st4.below.trans (hB5.mono st4.below.size))
         obtain ⟨A5, c5, rfl, rd5⟩ := own_reads hown5
         have hng : ng tag.toNat ≤ 4 := ng_le 4 _ (by omega)
         have RD5 := Lib.hid rd5
         clear hown5 hB5 rd5 st4))
    go_ret
    refine ⟨_, rfl, ?_, hB⟩
    rw [HF.out, identT, if_neg (show ¬ tag < 31 by omega), ← HS.out]
    exact hown
end Go.Proofs.YtbmcpjkhnhbjdaaDoor.Ident
