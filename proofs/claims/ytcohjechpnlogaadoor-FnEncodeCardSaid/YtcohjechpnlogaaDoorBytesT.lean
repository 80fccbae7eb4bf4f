/- The bytes of a packet as data; the reference's Bytes gives them. -/
import Derived.Test.YtcohjechpnlogaaDoorIdent
import Derived.Test.YtcohjechpnlogaaDoorFuel
namespace Go.Proofs.YtcohjechpnlogaaDoor.Tree
open Go.RowKit Go.Proofs.YtcohjechpnlogaaDoorW.PrintWords Go.Proofs.YtcohjechpnlogaaDoor.PFnEncode Go.Proofs.YtcohjechpnlogaaDoor.Within Go.Proofs.YtcohjechpnlogaaDoor.Num Go.Proofs.YtcohjechpnlogaaDoor.Ident
set_option linter.unusedVariables false
set_option linter.unusedSimpArgs false

mutual
/-- the bytes of a packet -/
def bytesT : S29 → List Int
  | ⟨a, b, c, d, l⟩ => identT a b c ++ lenBytes (d ++ bytesL l).length ++ (d ++ bytesL l)
def bytesL : List S29 → List Int
  | [] => []
  | x :: xs => bytesT x ++ bytesL xs
end

theorem bytesL_append (l m : List S29) : bytesL (l ++ m) = bytesL l ++ bytesL m := by
  induction l with
  | nil => simp [bytesL]
  | cons x xs ih => rw [List.cons_append, bytesL, bytesL, ih, List.append_assoc]

theorem identT_le (a b : Int) (c : Bool) (h0 : 0 ≤ b) (h : b < 268435456) : (identT a b c).length ≤ 5 := by
  unfold identT
  split
  · simp
  · have := ng_le 4 b.toNat (by omega)
    simp [low_length]
    exact this

mutual
theorem bytesT_le : ∀ x : S29, good x = true → tsize x < 72057594037927936 → (bytesT x).length ≤ 14 * tsize x
  | ⟨a, b, c, d, l⟩, hg, h => by
    rw [good] at hg
    simp only [Bool.and_eq_true, decide_eq_true_eq] at hg
    rw [tsize] at h ⊢
    have h1 := bytesL_le l hg.2 (by omega)
    have h2 := identT_le a b c hg.1.1.1.2 hg.1.1.2
    rw [bytesT]
    have h3 := lenBytes_le (d ++ bytesL l).length (by simp; omega)
    simp only [List.length_append] at h3 ⊢
    omega
theorem bytesL_le : ∀ l : List S29, goodL l = true → tsizeL l < 72057594037927936 → (bytesL l).length ≤ 14 * tsizeL l
  | [], _, _ => by simp [bytesL]
  | x :: xs, hg, h => by
    rw [goodL, Bool.and_eq_true] at hg
    rw [tsizeL] at h ⊢
    have h1 := bytesT_le x hg.1 (by omega)
    have h2 := bytesL_le xs hg.2 (by omega)
    rw [bytesL, List.length_append]
    omega
end

theorem or_len (n : Nat) (h : n ≤ 8) : Go.bits .or .u8 128 ((n : Int) % 256) = 128 + (n : Int) := by
  have := or128 ⟨n, by omega⟩
  rw [show (n : Int) % 256 = (n : Int) by omega]
  exact this

def ndz (n : Nat) : Nat := if n = 0 then 0 else nd n

theorem len_loop : ∀ (m n : Nat) (acc : List Int), n < 256 ^ m → acc.length + m ≤ 8 →
    spec_Length.l0 (m + 1) (n : Int) acc = some ((128 + ((acc.length + ndz n : Nat) : Int)) :: (be n (ndz n) ++ acc)) := by
  intro m
  induction m with
  | zero =>
    intro n acc h ha
    obtain rfl : n = 0 := by simpa using h
    unfold spec_Length.l0
    rw [if_neg (by omega)]
    simp only [Option.bind_some]
    rw [if_pos (by simp; omega), or_len _ (by omega)]
    simp [ndz, be]
  | succ m ih =>
    intro n acc h ha
    unfold spec_Length.l0
    by_cases hz : n = 0
    · subst hz
      rw [if_neg (by omega)]
      simp only [Option.bind_some]
      rw [if_pos (by simp; omega), or_len _ (by omega)]
      simp [ndz, be]
    · rw [if_pos (by omega)]
      simp only [Option.bind_some]
      rw [if_pos (by simp; omega)]
      have hr := ih (n / 256) ([(n : Int) % 256] ++ acc) (by rw [Nat.div_lt_iff_lt_mul (by omega)]; rw [Nat.pow_succ] at h; exact h) (by simp; omega)
      rw [show (n : Int) / 256 = ((n / 256 : Nat) : Int) by omega, hr]
      have hd : ndz n = ndz (n / 256) + 1 := by
        unfold ndz
        by_cases hs : n < 256
        · rw [if_neg hz, nd_small hs, if_pos (by omega)]
        · rw [if_neg hz, nd_great hs, if_neg (by omega)]
      rw [hd, be_snoc]
      congr 2
      · simp only [List.length_append, List.length_singleton]
        omega
      · simp

theorem len_spec (n : Nat) (h : n < 256 ^ 7) : spec_Length.f 8 (n : Int) = some (lenBytes n) := by
  unfold spec_Length.f lenBytes
  by_cases hs : n < 128
  · rw [if_pos (by omega), if_pos hs, show (n : Int) % 256 = (n : Int) by omega]
  · rw [if_neg (by omega), if_neg hs, len_loop 7 n [] h (by simp)]
    simp [ndz, show n ≠ 0 by omega]

mutual
theorem bytes_ex : ∀ x : S29, good x = true → tsize x < 1099511627776 → ∃ k, spec_Bytes.f k x.f0 x.f1 x.f2 x.f3 x.f4 = some (bytesT x)
  | ⟨a, b, c, d, l⟩, hg, h => by
    have hg' := hg
    rw [good] at hg'
    simp only [Bool.and_eq_true, decide_eq_true_eq] at hg'
    have ht := h
    rw [tsize] at ht
    obtain ⟨k, hk⟩ := bytesL_ex l d [] a b c d hg'.2 hg'.1.1.1.1.1 hg'.1.1.1.1.2 hg'.1.1.1.2 hg'.1.1.2 (by have := len_le_tsizeL l; simp; omega) (by omega)
    refine ⟨k + 1, ?_⟩
    rw [spec_Bytes.f]
    simp only [Option.bind_some]
    rw [if_pos (by simp; omega)]
    rw [bytesT]
    simpa using hk
theorem bytesL_ex : ∀ (l : List S29) (acc : List Int) (pre : List S29) (a b : Int) (c : Bool) (d : List Int), goodL l = true → 0 ≤ a → a ≤ 3 → 0 ≤ b → b < 268435456 → pre.length + l.length < 4611686018427387904 → acc.length + 14 * tsizeL l < 15393162788864 →
    ∃ k, spec_Bytes.l0 k acc (pre ++ l) ((pre ++ l).length : Int) (pre.length : Int) a b c d (pre ++ l) = some (identT a b c ++ lenBytes (acc ++ bytesL l).length ++ (acc ++ bytesL l))
  | [], acc, pre, a, b, c, d, hg, a0, a1, b0, b1, h1, h2 => by
    refine ⟨9, ?_⟩
    rw [spec_Bytes.l0, if_neg (by simp)]
    rw [at_rounds (fun k => spec_Identifier.mono a b c d (pre ++ []) k) (show 7 ≤ 8 by omega) (spec_ident a b c d (pre ++ []) a0 a1 b0 b1), len_spec acc.length (by simp [tsizeL] at h2; simp; omega)]
    have hi := identT_le a b c b0 b1
    have hl := lenBytes_le acc.length (by simp [tsizeL] at h2; simp; omega)
    simp only [Option.bind_some, bytesL, List.append_nil]
    rw [if_pos (by omega), if_pos (by simp [tsizeL] at h2; simp; omega)]
  | x :: xs, acc, pre, a, b, c, d, hg, a0, a1, b0, b1, h1, h2 => by
    rw [tsizeL] at h2
    rw [List.length_cons] at h1
    rw [goodL, Bool.and_eq_true] at hg
    have hx := bytesT_le x hg.1 (by omega)
    obtain ⟨k1, e1⟩ := bytes_ex x hg.1 (by omega)
    obtain ⟨k2, e2⟩ := bytesL_ex xs (acc ++ bytesT x) (pre ++ [x]) a b c d hg.2 a0 a1 b0 b1 (by simp; omega) (by simp; omega)
    have e1' := at_rounds (fun k => spec_Bytes.mono x.f0 x.f1 x.f2 x.f3 x.f4 k) (Nat.le_max_left k1 k2) e1
    have e2' := at_rounds (fun k => (spec_Bytes.mono_l k).2 _ _ _ _ _ _ _ _ _) (Nat.le_max_right k1 k2) e2
    refine ⟨max k1 k2 + 1, ?_⟩
    rw [spec_Bytes.l0, if_pos (by simp; omega), if_pos (by omega), if_pos (by simp; omega), rd_mid, e1']
    simp only [Option.bind_some]
    rw [if_pos (by omega)]
    have ew : wrap64 ((pre.length : Int) + 1) = (((pre ++ [x]).length : Nat) : Int) := by
      unfold wrap64
      simp
      omega
    rw [ew, bytesL]
    simpa using e2'
end
end Go.Proofs.YtcohjechpnlogaaDoor.Tree
