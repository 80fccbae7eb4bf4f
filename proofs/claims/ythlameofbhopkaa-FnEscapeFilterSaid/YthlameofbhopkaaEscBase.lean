/- The escaped value of a filter, in plain Lean: what the package's loop and the reference's loop both make. -/
import Derived.Test.YthlameofbhopkaaWWords
import Derived.Test.YthlameofbhopkaaWMore
import Derived.Lib.LazyBuf
namespace Go.Proofs.Ythlameofbhopkaa.Esc
open Go.RowKit Go.Proofs.YthlameofbhopkaaW.PrintWords

def hexs : ByteArray := ⟨#[48, 49, 50, 51, 52, 53, 54, 55, 56, 57, 97, 98, 99, 100, 101, 102]⟩

/-- the bytes that must be escaped -/
def mustE (c : Int) : Bool := decide (c > 127) || decide (c = 40) || decide (c = 41) || decide (c = 92) || decide (c = 42) || decide (c = 0)

/-- what stands for a byte -/
def piece (c : Int) : List Int := if mustE c = true then [92, bt hexs (c / 16), bt hexs (Go.bits .and .u8 c 15)] else [c]

def outp (s : ByteArray) : Nat → Nat → List Int
  | _, 0 => []
  | i, d + 1 => piece (bt s (i : Int)) ++ outp s (i + 1) d

def cnt (s : ByteArray) : Nat → Nat → Nat
  | _, 0 => 0
  | i, d + 1 => (if mustE (bt s (i : Int)) = true then 1 else 0) + cnt s (i + 1) d

theorem cnt_le (s : ByteArray) : ∀ d i, cnt s i d ≤ d := by
  intro d
  induction d with
  | zero => intro i; simp [cnt]
  | succ d ih => intro i; have := ih (i + 1); simp only [cnt]; split <;> omega

theorem low_all : ∀ n : Fin 256, 0 ≤ Go.bits .and .u8 ((n : Nat) : Int) 15 ∧ Go.bits .and .u8 ((n : Nat) : Int) 15 < 16 := by decide +kernel

theorem low_eq_all : ∀ n : Fin 256, Go.bits .and .u8 ((n : Nat) : Int) 15 = ((n : Nat) : Int) % 16 := by decide +kernel
theorem low_eq (c : Nat) (h1 : c ≤ 255) : Go.bits .and .u8 (c : Int) 15 = ((c % 16 : Nat) : Int) := low_eq_all ⟨c, by omega⟩

theorem low4 (c : Int) (h0 : 0 ≤ c) (h1 : c ≤ 255) : 0 ≤ Go.bits .and .u8 c 15 ∧ Go.bits .and .u8 c 15 < 16 := by
  have := low_all ⟨c.toNat, by omega⟩
  simp only [Int.toNat_of_nonneg h0] at this
  exact this

theorem wadd (i : Nat) (n : Int) (hi : i ≤ 1000000) (h0 : 0 ≤ n) (hn : n ≤ 100) : wrap64 ((i : Int) + n) = (i : Int) + n := by unfold wrap64; omega

theorem plain_out (s : ByteArray) (d : Nat) : ∀ i, i + d = s.size → cnt s i d = 0 → outp s i d = (bytesOf s).drop i := by
  induction d with
  | zero => intro i hi _; rw [List.drop_eq_nil_of_le (by rw [bytesOf_length]; omega)]; rfl
  | succ d ih =>
    intro i hi hc
    simp only [cnt] at hc
    have hm : ¬ mustE (bt s (i : Int)) = true := by intro h; rw [if_pos h] at hc; omega
    rw [if_neg hm] at hc
    have hl : i < (bytesOf s).length := by rw [bytesOf_length]; omega
    rw [outp, ih (i + 1) (by omega) (by omega), List.drop_eq_getElem_cons hl]
    have e : (bytesOf s)[i] = bt s (i : Int) := by
      have := rd_bytesOf s (i : Int)
      unfold rd at this
      rw [Int.toNat_natCast, List.getD_eq_getElem?_getD, List.getElem?_eq_getElem hl] at this
      exact this
    simp [piece, hm, e]


theorem outp_snoc (s : ByteArray) : ∀ d i, outp s i (d + 1) = outp s i d ++ piece (bt s ((i + d : Nat) : Int)) := by
  intro d
  induction d with
  | zero => intro i; simp [outp]
  | succ d ih =>
    intro i
    rw [outp, ih (i + 1), outp, List.append_assoc, show i + 1 + d = i + (d + 1) by omega]

theorem cnt_snoc (s : ByteArray) : ∀ d i, cnt s i (d + 1) = cnt s i d + (if mustE (bt s ((i + d : Nat) : Int)) = true then 1 else 0) := by
  intro d
  induction d with
  | zero => intro i; simp [cnt]
  | succ d ih =>
    intro i
    rw [cnt, ih (i + 1), cnt, show i + 1 + d = i + (d + 1) by omega]
    omega

theorem outp_length (s : ByteArray) : ∀ d i, (outp s i d).length = d + 2 * cnt s i d := by
  intro d
  induction d with
  | zero => intro i; simp [outp, cnt]
  | succ d ih =>
    intro i
    simp only [outp, cnt, List.length_append, ih (i + 1), piece]
    split <;> simp <;> omega

theorem cnt_mono (s : ByteArray) (n : Nat) : ∀ k, k ≤ n → cnt s 0 k ≤ cnt s 0 n := by
  induction n with
  | zero => intro k hk; rw [Nat.le_zero.1 hk]; exact Nat.le_refl _
  | succ n ih =>
    intro k hk
    rcases Nat.lt_or_ge n k with h | h
    · rw [show k = n + 1 by omega]; exact Nat.le_refl _
    · have := ih k h; rw [cnt_snoc]; omega
end Go.Proofs.Ythlameofbhopkaa.Esc
