/- Lengths as bytes: what encodeLength makes, in plain Lean; the contracts of encodeLength and works. -/
import Derived.Test.YtbmcpjkhnhbjdaaDoorPFnEncodex1
import Derived.Test.YtbmcpjkhnhbjdaaDoorPFnEncodex1
namespace Go.Proofs.YtbmcpjkhnhbjdaaDoor.Num
open Go.RowKit Go.Proofs.YtbmcpjkhnhbjdaaDoorW.PrintWords Go.Proofs.YtbmcpjkhnhbjdaaDoorW.PrintLast Go.Proofs.YtbmcpjkhnhbjdaaDoorW.PrintMore Go.Proofs.YtbmcpjkhnhbjdaaDoor.PFnEncode
set_option linter.unusedVariables false
set_option linter.unusedSimpArgs false

/-- the number of digits to the base 256, at least one -/
def nd (x : Nat) : Nat := if _h : x < 256 then 1 else nd (x / 256) + 1
termination_by x
decreasing_by omega

/-- m digits of a whole number to the base 256 (two's complement), the great one first -/
def be (x : Int) : Nat → List Int
  | 0 => []
  | m + 1 => (x / 256 ^ m % 256) :: be x m

theorem be_length (x : Int) (m : Nat) : (be x m).length = m := by
  induction m with
  | zero => rfl
  | succ m ih => simp [be, ih]

theorem be_snoc (x : Int) (m : Nat) : be x (m + 1) = be (x / 256) m ++ [x % 256] := by
  induction m with
  | zero => simp [be]
  | succ m ih =>
    rw [be, ih]
    show _ = ((x / 256) / 256 ^ m % 256) :: be (x / 256) m ++ _
    rw [Int.ediv_ediv_of_nonneg (by omega), show (256 : Int) * 256 ^ m = 256 ^ (m + 1) by rw [Int.pow_succ, Int.mul_comm]]
    rfl

theorem be_one (x : Int) : be x 1 = [x % 256] := by rw [be_snoc]; rfl

theorem be_range (x : Int) (m : Nat) : ∀ y ∈ be x m, 0 ≤ y ∧ y < 256 := by
  induction m with
  | zero => intro y hy; simp [be] at hy
  | succ m ih =>
    intro y hy
    rcases List.mem_cons.1 hy with rfl | hy
    · omega
    · exact ih y hy

theorem nd_small {x : Nat} (h : x < 256) : nd x = 1 := by rw [nd, dif_pos h]
theorem nd_great {x : Nat} (h : ¬ x < 256) : nd x = nd (x / 256) + 1 := by rw [nd, dif_neg h]

theorem nd_le : ∀ (k x : Nat), x < 256 ^ (k + 1) → nd x ≤ k + 1 := by
  intro k
  induction k with
  | zero => intro x h; rw [nd_small (by simpa using h)]; omega
  | succ k ih =>
    intro x h
    by_cases hx : x < 256
    · rw [nd_small hx]; omega
    · rw [nd_great hx]
      have := ih (x / 256) (by rw [Nat.div_lt_iff_lt_mul (by omega)]; rw [Nat.pow_succ] at h; exact h)
      omega

theorem nd_pos (x : Nat) : 1 ≤ nd x := by
  by_cases hx : x < 256
  · rw [nd_small hx]; omega
  · rw [nd_great hx]; omega

theorem ulen (k : Nat) : ∀ (x : Nat) (c : Int), x < 256 ^ (k + 1) → 0 ≤ c → c + k < 4611686018427387904 →
    asn1ber_uint64Length.l0 (k + 1) (x : Int) c = some (c + nd x - 1) := by
  induction k with
  | zero =>
    intro x c hx _ _
    have hx' : x < 256 := by simpa using hx
    unfold asn1ber_uint64Length.l0
    rw [if_neg (by omega), nd_small hx']
    congr 1; omega
  | succ k ih =>
    intro x c hx h0 hc
    unfold asn1ber_uint64Length.l0
    by_cases hs : x < 256
    · rw [if_neg (by omega), nd_small hs]
      congr 1; omega
    · rw [if_pos (by omega), nd_great hs]
      have e1 : wrap64 (c + 1) = c + 1 := by unfold wrap64; omega
      have e2 : (x : Int) / 256 = ((x / 256 : Nat) : Int) := by omega
      rw [e1, e2, ih (x / 256) (c + 1) (by rw [Nat.div_lt_iff_lt_mul (by omega)]; rw [Nat.pow_succ] at hx; exact hx) (by omega) (by omega)]
      congr 1; omega

theorem take_set_snoc (l : List Int) (j : Nat) (v : Int) (h : j < l.length) : (l.set j v).take (j + 1) = l.take j ++ [v] := by
  induction l generalizing j with
  | nil => simp at h
  | cons a l ih =>
    cases j with
    | zero => simp
    | succ j => simp only [List.set_cons_succ, List.take_succ_cons, List.cons_append]; rw [ih j (by simpa using h)]

theorem shr_at (k : IntKind) (hk : k.bits = 64) (x : Int) (m : Nat) (hm : m < 8) : (shr k x ((m : Int) * 8)) % 256 = x / 256 ^ m % 256 := by
  unfold shr
  rw [hk, show min ((m : Int) * 8).toNat 64 = 8 * m by omega, Int.pow_mul]
  rfl

theorem uenc (m : Nat) : ∀ (x : Int) (j : Nat) (out : List Int), m ≤ 8 → j + m ≤ 8 → out.length = j + m →
    asn1ber_encodeUnsignedInteger.l0 (m + 1) x (m : Int) out (j : Int) = some (out.take j ++ be x m) := by
  induction m with
  | zero =>
    intro x j out _ _ hl
    unfold asn1ber_encodeUnsignedInteger.l0
    rw [if_neg (by omega), List.take_of_length_le (by omega)]
    simp [be]
  | succ m ih =>
    intro x j out hm hj hl
    unfold asn1ber_encodeUnsignedInteger.l0
    have e1 : wrap64 (((m + 1 : Nat) : Int) - 1) = (m : Int) := by unfold wrap64; omega
    have e2 : wrap64 ((m : Int) * 8) = (m : Int) * 8 := by unfold wrap64; omega
    have e3 : IntKind.u64.wrap ((m : Int) * 8) = (m : Int) * 8 := IntWalk.u64_in _ (by omega)
    have e4 : wrap64 ((j : Int) + 1) = ((j + 1 : Nat) : Int) := by unfold wrap64; omega
    rw [e1, e2, e3, e4]
    rw [if_pos (show ((m + 1 : Nat) : Int) > 0 by omega), if_pos (show (0 : Int) ≤ (m : Int) * 8 by omega), if_pos (show (0 : Int) ≤ (j : Int) by omega), if_pos (show (j : Int) < (out.length : Int) by omega), shr_at .u64 rfl x m (by omega)]
    rw [Int.toNat_natCast, ih x (j + 1) (out.set j (x / 256 ^ m % 256)) (by omega) (by omega) (by rw [List.length_set]; omega)]
    rw [take_set_snoc _ _ _ (by omega)]
    simp [be]

theorem uint_enc (x : Nat) (hx : x < 256 ^ 8) (k : Nat) (hk : 9 ≤ k) : asn1ber_encodeUnsignedInteger.f k (x : Int) = some (be x (nd x)) := by
  have hn := nd_le 7 x hx
  have h1 : asn1ber_uint64Length.f 8 (x : Int) = some (nd x : Int) := by
    unfold asn1ber_uint64Length.f
    rw [ulen 7 x 1 hx (by omega) (by omega)]
    congr 1; omega
  have h1' := at_rounds (fun n => asn1ber_uint64Length.mono (x : Int) n) (show 8 ≤ k by omega) h1
  unfold asn1ber_encodeUnsignedInteger.f
  rw [h1']
  simp only [Option.bind_some]
  rw [if_pos (by omega), if_pos (by omega)]
  have h2 := uenc (nd x) x 0 (List.replicate (nd x) 0) hn (by omega) (by simp)
  have h2' := at_rounds (fun n => (asn1ber_encodeUnsignedInteger.mono_l n) (x : Int) (nd x : Int) (List.replicate (nd x) 0) 0) (show nd x + 1 ≤ k by omega) h2
  simp only [Int.toNat_natCast]
  rw [show (0 : Int) = ((0 : Nat) : Int) from rfl] at h2' ⊢
  rw [h2']; simp

/-- the bytes of a length -/
def lenBytes (n : Nat) : List Int := if n < 128 then [(n : Int)] else (128 + (nd n : Int)) :: be n (nd n)

theorem lenBytes_le (n : Nat) (h : n < 256 ^ 8) : (lenBytes n).length ≤ 9 := by
  unfold lenBytes
  have := nd_le 7 n h
  split
  · simp
  · simp [be_length]; omega

theorem or128 : ∀ n : Fin 9, Go.bits .or .u8 128 ((n : Nat) : Int) = 128 + ((n : Nat) : Int) := by decide +kernel

theorem enc_len (n : Nat) (hn : n < 256 ^ 7) : asn1ber_encodeLength.f 12 (n : Int) = some (lenBytes n) := by
  have h8 : n < 256 ^ 8 := by have : 256 ^ 7 ≤ 256 ^ 8 := Nat.pow_le_pow_right (by omega) (by omega); omega
  have hu : IntKind.u64.wrap (n : Int) = (n : Int) := IntWalk.u64_in _ (by simp at hn; omega)
  have hnd := nd_le 7 n h8
  have hp := nd_pos n
  unfold asn1ber_encodeLength.f lenBytes
  rw [hu, uint_enc n h8 12 (by omega)]
  simp only [Option.bind_some]
  by_cases hs : n < 128
  · rw [if_pos hs, if_neg (by omega), be_length, nd_small (by omega), if_neg (by omega), be_one]
    congr 1
    congr 1
    omega
  · rw [if_neg hs, if_pos (by omega), if_pos (by rw [be_length]; simp; omega), be_length]
    have e := or128 ⟨nd n, by omega⟩
    rw [show ((nd n : Nat) : Int) % 256 = (nd n : Int) by omega, e]
    rfl

theorem works_true : laws_works.f 12 = some true := by decide +kernel
theorem works_any (w : World) : Calls Tryd.prog 11 #[] w fun e w' => e = .returned (.bool true) ∧ Below w.heap.size w w' := laws_works.calls 12 true w works_true
theorem encLen_any (n : Nat) (h : n < 256 ^ 7) (w : World) : Calls Tryd.prog 105 #[.int .i64 (n : Int)] w fun e w' => ∃ v, e = .returned v ∧ (Kd.int .u8).R 5 w' w.heap.size (fun _ => True) v (lenBytes n) ∧ Below w.heap.size w w' :=
  asn1ber_encodeLength.calls 12 n _ w (enc_len n h)
end Go.Proofs.YtbmcpjkhnhbjdaaDoor.Num
