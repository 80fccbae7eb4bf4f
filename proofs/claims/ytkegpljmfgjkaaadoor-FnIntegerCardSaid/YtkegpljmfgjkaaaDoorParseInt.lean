/- ber.ParseInt64 of at most eight bytes: the two's complement number that they are. -/
import Derived.Test.YtkegpljmfgjkaaaDoorNewInt
namespace Go.Proofs.YtkegpljmfgjkaaaDoor.Ber
open Go.RowKit Go.Proofs.YtkegpljmfgjkaaaDoorW.PrintWords Go.Proofs.YtkegpljmfgjkaaaDoor.Buf Go.Proofs.YtkegpljmfgjkaaaDoor.Pk Go.Proofs.YtkegpljmfgjkaaaDoor.Num
set_option linter.unusedVariables false
set_option linter.unusedSimpArgs false

/-- the number that bytes are, without a sign -/
def uv : List Int → Int := List.foldl (fun u b => u * 256 + b) 0
theorem uv_snoc (l : List Int) (b : Int) : uv (l ++ [b]) = uv l * 256 + b := by simp [uv]

theorem uv_bound (l : List Int) (n : Nat) : l.length ≤ n → (∀ y ∈ l, 0 ≤ y ∧ y < 256) → 0 ≤ uv l ∧ uv l < 256 ^ n := by
  induction n generalizing l with
  | zero =>
    intro hl _
    have : l = [] := List.eq_nil_of_length_eq_zero (by omega)
    subst this
    simp [uv]
  | succ n ih =>
    intro hl hb
    rcases List.eq_nil_or_concat l with rfl | ⟨l', b, rfl⟩
    · have : (0 : Int) < 256 ^ (n + 1) := Int.pow_pos (by omega)
      simp only [uv, List.foldl_nil]
      omega
    · rw [List.concat_eq_append] at hl hb ⊢
      rw [uv_snoc, Int.pow_succ]
      have h1 := ih l' (by simp at hl; omega) (fun y hy => hb y (by simp [hy]))
      have h2 := hb b (by simp)
      omega

/-- the number that bytes are, in two's complement -/
def sv (l : List Int) : Int := if uv l < 128 * 256 ^ (l.length - 1) then uv l else uv l - 256 ^ l.length

theorem or_low (M b : Nat) (hM : M < 18446744073709551616) (h8 : M % 256 = 0) (hb : b < 256) : Go.bits .or .i64 (wrap64 (M : Int)) (b : Int) = wrap64 ((M : Int) + (b : Int)) := by
  show IntKind.i64.wrap ((BitVec.ofInt 64 (wrap64 (M : Int)) ||| BitVec.ofInt 64 (b : Int)).toNat : Int) = _
  rw [BitVec.toNat_or, BitVec.toNat_ofInt, BitVec.toNat_ofInt]
  have e0 : ((2 ^ 64 : Nat) : Int) = 18446744073709551616 := by decide
  rw [e0]
  have e1 : (wrap64 (M : Int) % 18446744073709551616).toNat = M := by unfold wrap64; omega
  have e2 : ((b : Int) % 18446744073709551616).toNat = b := by omega
  rw [e1, e2]
  have hq : M = 2 ^ 8 * (M / 256) := by omega
  have e3 : M ||| b = M + b := by
    conv => lhs; rw [hq]
    rw [← Nat.two_pow_add_eq_or_of_lt (show b < 2 ^ 8 by omega) (M / 256)]
    omega
  rw [e3, IntKind.wrap_i64]
  unfold wrap64
  push_cast
  rfl

theorem step_or (u b : Int) (h0 : 0 ≤ u) (h1 : u < 72057594037927936) (hb0 : 0 ≤ b) (hb1 : b < 256) : Go.bits .or .i64 (wrap64 (wrap64 u * 256)) (wrap64 b) = wrap64 (u * 256 + b) := by
  have e1 : wrap64 u = u := by unfold wrap64; omega
  have e2 : wrap64 b = b := by unfold wrap64; omega
  rw [e1, e2]
  obtain ⟨U, rfl⟩ := Int.eq_ofNat_of_zero_le h0
  obtain ⟨B, rfl⟩ := Int.eq_ofNat_of_zero_le hb0
  have := or_low (U * 256) B (by omega) (by omega) (by omega)
  simpa using this

/-- the two shifts at the end -/
theorem shifts (u : Int) (n : Nat) (hn : n ≤ 8) (h0 : 0 ≤ u) (h1 : u < 256 ^ n) : wrap64 (wrap64 u * 2 ^ (64 - n * 8)) / 2 ^ (64 - n * 8) = if u < 128 * 256 ^ (n - 1) then u else u - 256 ^ n := by
  unfold wrap64
  have hc : n = 0 ∨ n = 1 ∨ n = 2 ∨ n = 3 ∨ n = 4 ∨ n = 5 ∨ n = 6 ∨ n = 7 ∨ n = 8 := by omega
  rcases hc with rfl | rfl | rfl | rfl | rfl | rfl | rfl | rfl | rfl <;> simp only [Nat.reduceMul, Nat.reduceSub, Int.reducePow, Int.reduceMul] at h1 ⊢ <;> (try split) <;> omega

set_option maxHeartbeats 3200000 in
set_option maxRecDepth 100000 in
theorem parse_any (xs : List Int) (A : Option Addr) (c : Nat) (w : World) (hr : B8.C w A xs.length xs) (h8 : xs.length ≤ 8) (hb : ∀ y ∈ xs, 0 ≤ y ∧ y < 256) :
    Calls Tryd.prog 97 #[.slice A xs.length c] w fun e w' => e = .returned (.tuple #[.int .i64 (sv xs), .nilIface]) ∧ w = w' := by
  obtain ⟨n, hn⟩ : ∃ n, n = xs.length := ⟨_, rfl⟩
  have hsv : Hid (wrap64 (wrap64 (uv xs) * 2 ^ (64 - n * 8)) / 2 ^ (64 - n * 8) = sv xs) := by
    show _ = sv xs
    have hu := uv_bound xs n (by omega) hb
    rw [shifts _ _ (by omega) hu.1 hu.2]
    unfold sv
    rw [hn]
  have hbd : Hid (∀ k, k < n → (0 ≤ uv (xs.take k) ∧ uv (xs.take k) < 72057594037927936) ∧ 0 ≤ rd xs (k : Int) ∧ rd xs (k : Int) < 256 ∧ uv (xs.take (k + 1)) = uv (xs.take k) * 256 + rd xs (k : Int)) := by
    intro k hk
    have hk' : k < xs.length := by omega
    have e : rd xs (k : Int) = xs[k] := by simp [rd, List.getD_eq_getElem?_getD, List.getElem?_eq_getElem hk']
    have hu := uv_bound (xs.take k) 7 (by rw [List.length_take]; omega) (fun y hy => hb y (List.mem_of_mem_take hy))
    have h7 : (256 : Int) ^ 7 = 72057594037927936 := by decide
    have hy := hb xs[k] (List.getElem_mem hk')
    refine ⟨⟨hu.1, by omega⟩, by omega, by omega, ?_⟩
    rw [e, ← uv_snoc, List.take_succ_eq_append_getElem hk']
  rw [← hn] at h8 ⊢
  rw [← hsv.out]
  go_enter Tryd.func97, Tryd.ntmps97
  have HN := Lib.hid hn
  have HB := Lib.hid hb
  clear hn hb
  go_wp2
  go_loop [2, 4] (fun r i => ∃ (k : Nat) (u : Int), k ≤ n ∧ i = .int .i64 k ∧ r = .int .i64 (wrap64 u) ∧ Hid (u = uv (xs.take k))) (fun _ i => n - (intOf i).toNat)
  case atStart => exact ⟨0, 0, Nat.zero_le _, rfl, (show Value.int .i64 0 = Value.int .i64 (wrap64 0) from congrArg (Value.int .i64) (by unfold wrap64; omega)), rfl⟩
  case round =>
    obtain ⟨k, u, hk, rfl, rfl, HU⟩ := hrel
    by_cases hlt : k < n
    · obtain ⟨a, hA, hcell⟩ := Kd.at_int hr (k : Int) (by omega) (by have := HN.out; omega)
      subst hA
      rw [Int.toNat_natCast] at hcell
      go_wp2
      go_round
      case rel =>
        obtain ⟨⟨b1, b2⟩, b3, b4, b5⟩ := hbd.out k hlt
        refine ⟨k + 1, u * 256 + rd xs (k : Int), by omega, by go_num, ?_, ?_⟩
        · rw [← HU.out] at b1 b2
          rw [step_or u _ b1 b2 b3 b4]
        · show _ = uv _
          rw [b5, HU.out]
      case measure => simp [intOf]; omega
    · obtain rfl : k = n := by omega
      have hu : u = uv xs := by rw [HU.out, HN.out, List.take_length]
      clear HU
      subst hu
      go_wp2
      go_ret2
      exact ⟨rfl, rfl⟩
end Go.Proofs.YtkegpljmfgjkaaaDoor.Ber
