/- FnLength: for every int, the law answers true: the package's length bytes are the reference's (short form below 128, else the count and the big-endian digits). No condition. -/
import Derived.Test.YthlameofbhopkaaPFnLengthx2
namespace Go.Proofs.Ythlameofbhopkaa.Pure
open Go.RowKit Go.Proofs.Ythlameofbhopkaa.PFnLength Go.Proofs.YthlameofbhopkaaW.PrintWords Go.Proofs.YthlameofbhopkaaW.PrintLast
open Go.Proofs.YthlameofbhopkaaW.PrintMore

/-- the number of digits to the base 256, at least one -/
def nd (x : Nat) : Nat := if _h : x < 256 then 1 else nd (x / 256) + 1
termination_by x
decreasing_by omega

/-- m digits to the base 256, the great one first -/
def be (x : Nat) : Nat → List Int
  | 0 => []
  | m + 1 => ((x / 256 ^ m % 256 : Nat) : Int) :: be x m

theorem be_length (x m : Nat) : (be x m).length = m := by
  induction m with
  | zero => rfl
  | succ m ih => simp [be, ih]

theorem be_snoc (x m : Nat) : be x (m + 1) = be (x / 256) m ++ [((x % 256 : Nat) : Int)] := by
  induction m with
  | zero => simp [be]
  | succ m ih =>
    rw [be, ih]
    show _ = (((x / 256) / 256 ^ m % 256 : Nat) : Int) :: be (x / 256) m ++ _
    rw [Nat.div_div_eq_div_mul, show 256 * 256 ^ m = 256 ^ (m + 1) by rw [Nat.pow_succ, Nat.mul_comm]]
    rfl

theorem nd_small {x : Nat} (h : x < 256) : nd x = 1 := by rw [nd, dif_pos h]
theorem nd_great {x : Nat} (h : ¬ x < 256) : nd x = nd (x / 256) + 1 := by rw [nd, dif_neg h]

theorem nd_le : ∀ (k x : Nat), x < 256 ^ (k + 1) → nd x ≤ k + 1 := by
  intro k
  induction k with
  | zero => intro x h; rw [nd_small (by simpa using h)]; omega
  | succ k ih =>
    intro x h
    by_cases hx : x < 256
    · rw [nd_small hx]; omega
    · rw [nd_great hx]
      have := ih (x / 256) (by rw [Nat.div_lt_iff_lt_mul (by omega)]; rw [Nat.pow_succ] at h; exact h)
      omega

theorem ulen (k : Nat) : ∀ (x : Nat) (c : Int), x < 256 ^ (k + 1) → 0 ≤ c → c + k < 4611686018427387904 →
    asn1ber_uint64Length.l0 (k + 1) (x : Int) c = some (c + nd x - 1) := by
  induction k with
  | zero =>
    intro x c hx _ _
    have hx' : x < 256 := by simpa using hx
    unfold asn1ber_uint64Length.l0
    rw [if_neg (by omega), nd_small hx']
    congr 1; omega
  | succ k ih =>
    intro x c hx h0 hc
    unfold asn1ber_uint64Length.l0
    by_cases hs : x < 256
    · rw [if_neg (by omega), nd_small hs]
      congr 1; omega
    · rw [if_pos (by omega), nd_great hs]
      have e1 : wrap64 (c + 1) = c + 1 := by unfold wrap64; omega
      have e2 : (x : Int) / 256 = ((x / 256 : Nat) : Int) := by omega
      rw [e1, e2, ih (x / 256) (c + 1) (by rw [Nat.div_lt_iff_lt_mul (by omega)]; rw [Nat.pow_succ] at hx; exact hx) (by omega) (by omega)]
      congr 1; omega

theorem take_set_snoc (l : List Int) (j : Nat) (v : Int) (h : j < l.length) : (l.set j v).take (j + 1) = l.take j ++ [v] := by
  induction l generalizing j with
  | nil => simp at h
  | cons a l ih =>
    cases j with
    | zero => simp
    | succ j => simp only [List.set_cons_succ, List.take_succ_cons, List.cons_append]; rw [ih j (by simpa using h)]

theorem shr_at (x m : Nat) (hm : m < 8) : (shr .u64 (x : Int) ((m : Int) * 8)) % 256 = ((x / 256 ^ m % 256 : Nat) : Int) := by
  unfold shr
  rw [show min ((m : Int) * 8).toNat (IntKind.u64).bits = 8 * m by show min _ 64 = _; omega]
  rw [show (2 : Int) ^ (8 * m) = ((256 ^ m : Nat) : Int) by rw [Int.pow_mul]; norm_cast]
  rw [Int.natCast_emod, Int.natCast_ediv]
  rfl

theorem uenc (m : Nat) : ∀ (x j : Nat) (out : List Int), m ≤ 8 → j + m ≤ 8 → out.length = j + m →
    asn1ber_encodeUnsignedInteger.l0 (m + 1) (x : Int) (m : Int) out (j : Int) = some (out.take j ++ be x m) := by
  induction m with
  | zero =>
    intro x j out _ _ hl
    unfold asn1ber_encodeUnsignedInteger.l0
    rw [if_neg (by omega), List.take_of_length_le (by omega)]
    simp [be]
  | succ m ih =>
    intro x j out hm hj hl
    unfold asn1ber_encodeUnsignedInteger.l0
    have e1 : wrap64 (((m + 1 : Nat) : Int) - 1) = (m : Int) := by unfold wrap64; omega
    have e2 : wrap64 ((m : Int) * 8) = (m : Int) * 8 := by unfold wrap64; omega
    have e3 : IntKind.u64.wrap ((m : Int) * 8) = (m : Int) * 8 := by
      have : (m : Int) ≤ 7 := by omega
      unfold IntKind.wrap; simp [IntKind.bits, IntKind.signed]; omega
    have e4 : wrap64 ((j : Int) + 1) = ((j + 1 : Nat) : Int) := by unfold wrap64; omega
    rw [e1, e2, e3, e4]
    rw [if_pos (show ((m + 1 : Nat) : Int) > 0 by omega), if_pos (show (0 : Int) ≤ (m : Int) * 8 by omega), if_pos (show (0 : Int) ≤ (j : Int) by omega), if_pos (show (j : Int) < (out.length : Int) by omega), shr_at x m (by omega)]
    rw [Int.toNat_natCast, ih x (j + 1) (out.set j ((x / 256 ^ m % 256 : Nat) : Int)) (by omega) (by omega) (by rw [List.length_set]; omega)]
    rw [take_set_snoc _ _ _ (by omega)]
    simp [be]

theorem uint_enc (x : Nat) (hx : x < 256 ^ 8) (k : Nat) (hk : 9 ≤ k) : asn1ber_encodeUnsignedInteger.f k (x : Int) = some (be x (nd x)) := by
  have hn := nd_le 7 x hx
  have h1 : asn1ber_uint64Length.f 8 (x : Int) = some (nd x : Int) := by
    unfold asn1ber_uint64Length.f
    rw [ulen 7 x 1 hx (by omega) (by omega)]
    congr 1; omega
  have h1' := at_rounds (fun n => asn1ber_uint64Length.mono (x : Int) n) (show 8 ≤ k by omega) h1
  unfold asn1ber_encodeUnsignedInteger.f
  rw [h1']
  simp only [Option.bind_some]
  rw [if_pos (by omega), if_pos (by omega)]
  have h2 := uenc (nd x) x 0 (List.replicate (nd x) 0) hn (by omega) (by simp)
  have h2' := at_rounds (fun n => (asn1ber_encodeUnsignedInteger.mono_l n) (x : Int) (nd x : Int) (List.replicate (nd x) 0) 0) (show nd x + 1 ≤ k by omega) h2
  simp only [Int.toNat_natCast]
  rw [show (0 : Int) = ((0 : Nat) : Int) from rfl] at h2' ⊢
  rw [h2']; simp

theorem spec_len (k : Nat) : ∀ (x : Nat) (acc : List Int), 0 < x → x < 256 ^ (k + 1) → acc.length + k < 1000 →
    spec_Length.l0 (k + 2) (x : Int) acc = some ([Go.bits .or .u8 128 (((be x (nd x) ++ acc).length : Int) % 256)] ++ (be x (nd x) ++ acc)) := by
  induction k with
  | zero =>
    intro x acc hx hx' ha
    have hs : x < 256 := by simpa using hx'
    have e : (x : Int) % 256 = ((x % 256 : Nat) : Int) := by omega
    unfold spec_Length.l0
    rw [if_pos (by omega)]
    simp only [Option.bind_some]
    rw [if_pos (by simp; omega)]
    unfold spec_Length.l0
    rw [if_neg (by omega)]
    simp only [Option.bind_some]
    rw [if_pos (by simp; omega), nd_small hs, e, be, be, Nat.pow_zero, Nat.div_one]
  | succ k ih =>
    intro x acc hx hx' ha
    by_cases hs : x < 256
    · have := ih x acc hx (by have : 256 ^ 1 ≤ 256 ^ (k + 1) := Nat.pow_le_pow_right (by omega) (by omega); omega) (by omega)
      exact at_rounds (fun n => (spec_Length.mono_l n) (x : Int) acc) (show k + 2 ≤ k + 1 + 2 by omega) this
    · unfold spec_Length.l0
      rw [if_pos (by omega)]
      simp only [Option.bind_some]
      rw [if_pos (by simp; omega)]
      have e : (x : Int) % 256 = ((x % 256 : Nat) : Int) := by omega
      have e2 : (x : Int) / 256 = ((x / 256 : Nat) : Int) := by omega
      rw [e, e2, ih (x / 256) _ (by omega) (by rw [Nat.div_lt_iff_lt_mul (by omega)]; rw [Nat.pow_succ] at hx'; exact hx') (by simp; omega)]
      rw [nd_great hs, be_snoc]
      simp

theorem works_true : laws_works.f 12 = some true := by decide +kernel

theorem FnLength : laws_FnLength.Pure := by
  intro a0 hw
  have hwk : ∀ k, 12 ≤ k → laws_works.f k = some true := fun k hk => at_rounds (fun n => laws_works.mono n) hk works_true
  refine ⟨13, ?_⟩
  unfold laws_FnLength.f
  by_cases h0 : a0 < 0
  · rw [if_pos h0]
    rw [laws_FnLength.j0, if_pos rfl, hwk 12 (by omega)]; rfl
  · rw [if_neg h0, laws_FnLength.j0]
    by_cases h1 : a0 ≥ 2147483648
    · rw [if_pos (by simpa using h1), hwk 12 (by omega)]; rfl
    · rw [if_neg (by simpa using h1)]
      obtain ⟨x, rfl⟩ : ∃ x : Nat, a0 = (x : Int) := ⟨a0.toNat, by omega⟩
      have hx : x < 256 ^ 4 := by simp; omega
      have hx8 : x < 256 ^ 8 := by simp; omega
      have hn := nd_le 3 x hx
      have hu : IntKind.u64.wrap (x : Int) = (x : Int) := by unfold IntKind.wrap; simp [IntKind.bits, IntKind.signed]; omega
      have he := uint_enc x hx8 12 (by omega)
      unfold impl_EncodeLength.f asn1ber_LengthBytes.f asn1ber_encodeLength.f
      rw [hu, he]
      simp only [Option.bind_some]
      unfold spec_Length.f
      by_cases hs : x < 128
      · rw [if_neg (by omega), be_length, nd_small (by omega), if_neg (by omega)]
        rw [if_pos (show (x : Int) < 128 by omega)]
        simp only [Option.bind_some]
        have e : (x : Int) % 256 = ((x % 256 : Nat) : Int) := by omega
        rw [if_pos (by rw [be, be, Nat.pow_zero, Nat.div_one, e]), hwk 12 (by omega)]; rfl
      · rw [if_pos (show (x : Int) > 127 by omega), if_pos (by rw [be_length]; simp; omega)]
        rw [if_neg (show ¬ (x : Int) < 128 by omega)]
        have hl := spec_len 3 x [] (by omega) hx (by simp)
        have hl' := at_rounds (fun n => (spec_Length.mono_l n) (x : Int) []) (show 5 ≤ 12 by omega) hl
        rw [hl']
        simp only [Option.bind_some]
        rw [if_pos (by simp), hwk 12 (by omega)]; rfl

end Go.Proofs.Ythlameofbhopkaa.Pure
