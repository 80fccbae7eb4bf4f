/- Whole numbers as bytes: what the package's encoder and the reference's make; the contracts of encodeInteger and spec.Whole. -/
import Derived.Test.YtbmcpjkhnhbjdaaDoorPencodeIntegerx1
import Derived.Test.YtbmcpjkhnhbjdaaDoorPFnEncodex1
import Derived.Test.YtbmcpjkhnhbjdaaDoorLen
namespace Go.Proofs.YtbmcpjkhnhbjdaaDoor.Num
open Go.RowKit Go.Proofs.YtbmcpjkhnhbjdaaDoorW.PrintWords Go.Proofs.YtbmcpjkhnhbjdaaDoorW.PrintLast Go.Proofs.YtbmcpjkhnhbjdaaDoorW.PrintMore Go.Proofs.YtbmcpjkhnhbjdaaDoor.PencodeInteger Go.Proofs.YtbmcpjkhnhbjdaaDoor.PFnEncode
set_option linter.unusedVariables false
set_option linter.unusedSimpArgs false

/-- how many bytes a whole number wants -/
def wl (n : Int) : Nat := if _h : -128 ≤ n ∧ n ≤ 127 then 1 else wl (n / 256) + 1
termination_by n.natAbs
decreasing_by omega

theorem wl_small {n : Int} (h : -128 ≤ n ∧ n ≤ 127) : wl n = 1 := by rw [wl, dif_pos h]
theorem wl_great {n : Int} (h : ¬ (-128 ≤ n ∧ n ≤ 127)) : wl n = wl (n / 256) + 1 := by rw [wl, dif_neg h]

theorem wl_le : ∀ (k : Nat) (n : Int), -(128 * 256 ^ k) ≤ n → n < 128 * 256 ^ k → wl n ≤ k + 1 := by
  intro k
  induction k with
  | zero => intro n h1 h2; rw [wl_small (by omega)]; omega
  | succ k ih =>
    intro n h1 h2
    by_cases hs : -128 ≤ n ∧ n ≤ 127
    · rw [wl_small hs]; omega
    · rw [wl_great hs]
      rw [Int.pow_succ] at h1 h2
      have := ih (n / 256) (by omega) (by omega)
      omega
theorem wl_pos (n : Int) : 1 ≤ wl n := by
  by_cases hs : -128 ≤ n ∧ n ≤ 127
  · rw [wl_small hs]; omega
  · rw [wl_great hs]; omega

/-- the bytes of a whole number -/
def whole (n : Int) : List Int := be n (wl n)

theorem wl_le8 (n : Int) (h : -9223372036854775808 ≤ n ∧ n ≤ 9223372036854775807) : wl n ≤ 8 := by
  have e7 : (256 : Int) ^ 7 = 72057594037927936 := by decide
  exact wl_le 7 n (by omega) (by omega)

theorem len1 (k : Nat) : ∀ (n c : Int), n ≤ 127 → -(128 * 256 ^ k) ≤ n → 0 ≤ c → c + k < 4611686018427387904 → asn1ber_int64Length.l1 (k + 1) n c = some (c + wl n - 1) := by
  induction k with
  | zero =>
    intro n c h h1 _ _
    unfold asn1ber_int64Length.l1
    rw [if_neg (by omega), wl_small (by omega)]
    congr 1; omega
  | succ k ih =>
    intro n c h h1 h0 hc
    unfold asn1ber_int64Length.l1
    by_cases hs : -128 ≤ n
    · rw [if_neg (by omega), wl_small (by omega)]
      congr 1; omega
    · rw [if_pos (by omega), wl_great (by omega)]
      rw [Int.pow_succ] at h1
      have e1 : wrap64 (c + 1) = c + 1 := by unfold wrap64; omega
      rw [e1, ih (n / 256) (c + 1) (by omega) (by omega) (by omega) (by omega)]
      congr 1; omega

theorem len0 (k : Nat) : ∀ (n c : Int) (j : Nat), -128 ≤ n → n < 128 * 256 ^ k → 0 ≤ c → c + k < 4611686018427387904 → asn1ber_int64Length.l0 (k + (j + 2)) n c = some (c + wl n - 1) := by
  induction k with
  | zero =>
    intro n c j h h1 _ _
    rw [show 0 + (j + 2) = j + 1 + 1 by omega]
    unfold asn1ber_int64Length.l0
    rw [if_neg (by omega)]
    unfold asn1ber_int64Length.l1
    rw [if_neg (by omega), wl_small (by omega)]
    congr 1; omega
  | succ k ih =>
    intro n c j h h1 h0 hc
    by_cases hs : n ≤ 127
    · rw [show k + 1 + (j + 2) = (k + j + 1) + 1 + 1 by omega]
      unfold asn1ber_int64Length.l0
      rw [if_neg (by omega)]
      unfold asn1ber_int64Length.l1
      rw [if_neg (by omega), wl_small (by omega)]
      congr 1; omega
    · rw [show k + 1 + (j + 2) = (k + (j + 2)) + 1 by omega]
      unfold asn1ber_int64Length.l0
      rw [if_pos (by omega), wl_great (by omega)]
      rw [Int.pow_succ] at h1
      have e1 : wrap64 (c + 1) = c + 1 := by unfold wrap64; omega
      rw [e1, ih (n / 256) (c + 1) j (by omega) (by omega) (by omega) (by omega)]
      congr 1; omega

theorem int_len (n : Int) (h : -9223372036854775808 ≤ n ∧ n ≤ 9223372036854775807) : asn1ber_int64Length.f 12 n = some (wl n : Int) := by
  have e7 : (256 : Int) ^ 7 = 72057594037927936 := by decide
  unfold asn1ber_int64Length.f
  by_cases hs : -128 ≤ n
  · rw [show 12 = 7 + (3 + 2) by omega, len0 7 n 1 3 hs (by omega) (by omega) (by omega)]
    congr 1; omega
  · unfold asn1ber_int64Length.l0
    rw [if_neg (by omega), at_rounds (fun k => (asn1ber_int64Length.mono_l k).2 n 1) (show 8 ≤ 11 by omega) (len1 7 n 1 (by omega) (by omega) (by omega) (by omega))]
    congr 1; omega

theorem ienc (m : Nat) : ∀ (x : Int) (j : Nat) (out : List Int), m ≤ 8 → j + m ≤ 8 → out.length = j + m →
    asn1ber_encodeInteger.l0 (m + 1) x (m : Int) out (j : Int) = some (out.take j ++ be x m) := by
  induction m with
  | zero =>
    intro x j out _ _ hl
    unfold asn1ber_encodeInteger.l0
    rw [if_neg (by omega), List.take_of_length_le (by omega)]
    simp [be]
  | succ m ih =>
    intro x j out hm hj hl
    unfold asn1ber_encodeInteger.l0
    have e1 : wrap64 (((m + 1 : Nat) : Int) - 1) = (m : Int) := by unfold wrap64; omega
    have e2 : wrap64 ((m : Int) * 8) = (m : Int) * 8 := by unfold wrap64; omega
    have e3 : IntKind.u64.wrap ((m : Int) * 8) = (m : Int) * 8 := IntWalk.u64_in _ (by omega)
    have e4 : wrap64 ((j : Int) + 1) = ((j + 1 : Nat) : Int) := by unfold wrap64; omega
    rw [e1, e2, e3, e4]
    rw [if_pos (show ((m + 1 : Nat) : Int) > 0 by omega), if_pos (show (0 : Int) ≤ (m : Int) * 8 by omega), if_pos (show (0 : Int) ≤ (j : Int) by omega), if_pos (show (j : Int) < (out.length : Int) by omega), shr_at .i64 rfl x m (by omega)]
    rw [Int.toNat_natCast, ih x (j + 1) (out.set j (x / 256 ^ m % 256)) (by omega) (by omega) (by rw [List.length_set]; omega)]
    rw [take_set_snoc _ _ _ (by omega)]
    simp [be]

theorem int_enc (n : Int) (h : -9223372036854775808 ≤ n ∧ n ≤ 9223372036854775807) : asn1ber_encodeInteger.f 12 n = some (whole n) := by
  have hn := wl_le8 n h
  unfold asn1ber_encodeInteger.f whole
  rw [int_len n h]
  simp only [Option.bind_some]
  rw [if_pos (by omega), if_pos (by omega), Int.toNat_natCast]
  have h2 := ienc (wl n) n 0 (List.replicate (wl n) 0) hn (by omega) (by simp)
  have h2' := at_rounds (fun k => (asn1ber_encodeInteger.mono_l k) n (wl n : Int) (List.replicate (wl n) 0) 0) (show wl n + 1 ≤ 12 by omega) h2
  rw [show (0 : Int) = ((0 : Nat) : Int) from rfl] at h2' ⊢
  rw [h2']; simp

theorem and128 : ∀ n : Fin 512, (Go.bits .and .i64 (((n : Nat) : Int) - 256) 128 = 0 ↔ (((n : Nat) : Int) - 256) % 256 < 128) := by decide +kernel

theorem and128_at (x : Int) (h0 : -256 ≤ x) (h1 : x ≤ 255) : (Go.bits .and .i64 x 128 = 0 ↔ x % 256 < 128) := by
  have := and128 ⟨(x + 256).toNat, by omega⟩
  simp only [Int.toNat_of_nonneg (show 0 ≤ x + 256 by omega), show x + 256 - 256 = x by omega] at this
  exact this

theorem spec_whole (k : Nat) : ∀ (n : Int) (acc : List Int), -(128 * 256 ^ k) ≤ n → n < 128 * 256 ^ k → acc.length + k < 1000 → ∀ hd, hd = n % 256 →
    spec_Whole.l0 (k + 1) n (hd :: acc) = some (be n (wl n) ++ acc) := by
  induction k with
  | zero =>
    rintro n acc h1 h2 _ hd rfl
    rw [wl_small (by omega), be_one]
    unfold spec_Whole.l0
    have ha := and128_at n (by omega) (by omega)
    by_cases hn : 0 ≤ n
    · rw [if_pos (by omega), if_pos (ha.2 (by omega))]; rfl
    · rw [if_neg (by omega), if_pos (by omega), if_neg (fun e => by have := ha.1 e; omega)]; rfl
  | succ k ih =>
    rintro n acc h1 h2 hk hd rfl
    by_cases hs : -128 ≤ n ∧ n ≤ 127
    · exact at_rounds (fun j => (spec_Whole.mono_l j) n _) (show k + 1 ≤ k + 1 + 1 by omega) (ih n acc (by rw [Int.pow_succ] at h1; have : (1 : Int) ≤ 256 ^ k := Int.pow_pos (by omega); omega) (by have : (1 : Int) ≤ 256 ^ k := Int.pow_pos (by omega); omega) (by omega) _ rfl)
    · rw [Int.pow_succ] at h1 h2
      have r := ih (n / 256) (n % 256 :: acc) (by omega) (by omega) (by simp; omega) _ rfl
      rw [wl_great hs, be_snoc, List.append_assoc, List.singleton_append]
      unfold spec_Whole.l0
      simp only [Option.bind_some]
      have hlen : ([n / 256 % 256] : List Int).length + (n % 256 :: acc).length < 140737488355328 := by simp; omega
      by_cases c1 : n / 256 = 0
      · rw [if_pos c1, if_neg (fun e => by have := (and128_at n (by omega) (by omega)).1 e; omega), if_neg (by omega), if_pos hlen]
        exact r
      · rw [if_neg c1]
        by_cases c2 : n / 256 = -1
        · rw [if_pos c2, if_pos ((and128_at n (by omega) (by omega)).2 (by omega)), if_pos hlen]
          exact r
        · rw [if_neg c2, if_pos hlen]
          exact r

theorem whole_spec (n : Int) (h : -9223372036854775808 ≤ n ∧ n ≤ 9223372036854775807) : spec_Whole.f 8 n = some (whole n) := by
  have e7 : (256 : Int) ^ 7 = 72057594037927936 := by decide
  unfold spec_Whole.f whole
  have := spec_whole 7 n [] (by omega) (by omega) (by simp) _ rfl
  rw [List.append_nil] at this
  exact this

theorem encInt_any (n : Int) (h : -9223372036854775808 ≤ n ∧ n ≤ 9223372036854775807) (w : World) : Calls Tryd.prog 109 #[.int .i64 n] w fun e w' => ∃ v, e = .returned v ∧ (Kd.int .u8).R 5 w' w.heap.size (fun _ => True) v (whole n) ∧ Below w.heap.size w w' :=
  asn1ber_encodeInteger.calls 12 n _ w (int_enc n h)
theorem whole_any (n : Int) (h : -9223372036854775808 ≤ n ∧ n ≤ 9223372036854775807) (w : World) : Calls Tryd.prog 85 #[.int .i64 n] w fun e w' => ∃ v, e = .returned v ∧ (Kd.int .u8).R 5 w' w.heap.size (fun _ => True) v (whole n) ∧ Below w.heap.size w w' :=
  spec_Whole.calls 8 n _ w (whole_spec n h)
end Go.Proofs.YtbmcpjkhnhbjdaaDoor.Num
