/- Parts of the proof of one law, in the order in which they build. Plain maths: bytes that are a packet (headers with definite lengths); the bytes of a packet are one. · The errors at the end of the bytes; the length of a packet. · The identifier of a packet. · The identifier of a packet: a tag of many bytes; whole, or cut. -/
import Derived.LaidEql
import Derived.Test.YteockihoefbmdaaGreatDoorEty1
import Derived.Test.YteockihoefbmdaaGreatDoorEty2
import Derived.Test.YteockihoefbmdaaGreatDoorEty3
import Derived.Test.YteockihoefbmdaaGreatDoorEty4
import Derived.Test.YteockihoefbmdaaGreatDoorEty5
import Derived.Test.YteockihoefbmdaaGreatDoorEty6
namespace Go.Proofs.YteockihoefbmdaaGreatDoor.Tree
open Go.RowKit Go.Proofs.YteockihoefbmdaaGreatDoorW.PrintWords Go.Proofs.YteockihoefbmdaaGreatDoor.PFnEncode Go.Proofs.YteockihoefbmdaaGreatDoor.Num Go.Proofs.YteockihoefbmdaaGreatDoor.Ident
set_option linter.unusedVariables false
set_option linter.unusedSimpArgs false

/-- a tag of many bytes: acc so far, out of n bytes: the tag, and how many bytes it has -/
def tagB : List Int → Int → Nat → Option (Int × Nat)
  | [], _, _ => none
  | b :: l, acc, n => if 2097152 ≤ acc then none else if n = 0 ∧ b % 128 = 0 then none else if b < 128 then some (acc * 128 + b % 128, n + 1) else tagB l (acc * 128 + b % 128) (n + 1)
/-- an identifier: class, whether it is constructed, tag, how many bytes -/
def idB : List Int → Option (Int × Bool × Int × Nat)
  | [] => none
  | b :: l => if b % 32 < 31 then some (b / 64, decide (b / 32 % 2 = 1), b % 32, 1) else (tagB l 0 0).map fun r => (b / 64, decide (b / 32 % 2 = 1), r.1, r.2 + 1)
/-- the number of bytes -/
def beN (l : List Int) : Int := l.foldl (fun a b => a * 256 + b) 0
/-- a length: the number, how many bytes -/
def lenB : List Int → Option (Int × Nat)
  | [] => none
  | b :: l => if b < 128 then some (b, 1) else if b = 128 ∨ 132 < b then none else if (b - 128).toNat ≤ l.length then some (beN (l.take (b - 128).toNat), (b - 128).toNat + 1) else none
/-- a header: class, whether it is constructed, tag, length, how many bytes -/
def hdrB (l : List Int) : Option (Int × Bool × Int × Int × Nat) :=
  (idB l).bind fun i => (lenB (l.drop i.2.2.2)).map fun n => (i.1, i.2.1, i.2.2.1, n.1, i.2.2.2 + n.2)

theorem tagB_app : ∀ {l : List Int} {acc : Int} {n : Nat} {r : Int × Nat} (m : List Int), tagB l acc n = some r → tagB (l ++ m) acc n = some r ∧ n < r.2 ∧ r.2 ≤ n + l.length
  | [], _, _, _, _, h => by simp [tagB] at h
  | b :: l, acc, n, r, m, h => by
    rw [tagB] at h
    rw [List.cons_append, tagB]
    by_cases h1 : 2097152 ≤ acc
    · rw [if_pos h1] at h; cases h
    by_cases h2 : n = 0 ∧ b % 128 = 0
    · rw [if_neg h1, if_pos h2] at h; cases h
    rw [if_neg h1, if_neg h2] at h ⊢
    by_cases h3 : b < 128
    · rw [if_pos h3] at h ⊢
      cases h
      exact ⟨rfl, Nat.lt_succ_self _, by rw [List.length_cons]; simp only; omega⟩
    · rw [if_neg h3] at h ⊢
      obtain ⟨e, h4, h5⟩ := tagB_app m h
      exact ⟨e, by omega, by rw [List.length_cons]; omega⟩
theorem idB_app {l : List Int} {r : Int × Bool × Int × Nat} (m : List Int) (h : idB l = some r) : idB (l ++ m) = some r ∧ 1 ≤ r.2.2.2 ∧ r.2.2.2 ≤ l.length := by
  cases l with
  | nil => simp [idB] at h
  | cons b l =>
    rw [idB] at h
    rw [List.cons_append, idB]
    by_cases h1 : b % 32 < 31
    · rw [if_pos h1] at h ⊢
      cases h
      exact ⟨rfl, Nat.le_refl _, by simp⟩
    · rw [if_neg h1] at h ⊢
      rw [Option.map_eq_some_iff] at h
      obtain ⟨t, ht, rfl⟩ := h
      obtain ⟨e, h4, h5⟩ := tagB_app m ht
      exact ⟨by simp [e], by simp, by simp; omega⟩
theorem lenB_app {l : List Int} {r : Int × Nat} (m : List Int) (h : lenB l = some r) : lenB (l ++ m) = some r ∧ 1 ≤ r.2 ∧ r.2 ≤ l.length := by
  cases l with
  | nil => simp [lenB] at h
  | cons b l =>
    rw [lenB] at h
    rw [List.cons_append, lenB]
    by_cases h1 : b < 128
    · rw [if_pos h1] at h ⊢
      cases h
      exact ⟨rfl, Nat.le_refl _, by simp⟩
    rw [if_neg h1] at h ⊢
    by_cases h2 : b = 128 ∨ 132 < b
    · rw [if_pos h2] at h; cases h
    rw [if_neg h2] at h ⊢
    by_cases h3 : (b - 128).toNat ≤ l.length
    · rw [if_pos h3] at h
      rw [if_pos (by simp; omega), List.take_append_of_le_length h3]
      cases h
      exact ⟨rfl, by simp, by simp; omega⟩
    · rw [if_neg h3] at h; cases h
theorem hdrB_app {l : List Int} {r : Int × Bool × Int × Int × Nat} (m : List Int) (h : hdrB l = some r) : hdrB (l ++ m) = some r ∧ 2 ≤ r.2.2.2.2 ∧ r.2.2.2.2 ≤ l.length := by
  unfold hdrB at h ⊢
  rw [Option.bind_eq_some_iff] at h
  obtain ⟨i, hi, h⟩ := h
  rw [Option.map_eq_some_iff] at h
  obtain ⟨n, hn, rfl⟩ := h
  obtain ⟨e1, h1, h2⟩ := idB_app m hi
  obtain ⟨e2, h3, h4⟩ := lenB_app m hn
  rw [List.length_drop] at h4
  refine ⟨?_, by simp only; omega, by simp only; omega⟩
  rw [e1, Option.bind_some, List.drop_append_of_le_length h2, e2]
  rfl

mutual
/-- the first n of these bytes are the packet x -/
inductive Par : List Int → S34 → Nat → Prop
  | prim {l : List Int} {cls tag : Int} {n k : Nat} (h : hdrB l = some (cls, false, tag, (n : Int), k)) (hn : k + n ≤ l.length) : Par l ⟨cls, tag, false, (l.drop k).take n, []⟩ (k + n)
  | cons {l : List Int} {cls tag : Int} {n k : Nat} {ks : List S34} (h : hdrB l = some (cls, true, tag, (n : Int), k)) (hn : k + n ≤ l.length) (hk : ParL ((l.drop k).take n) ks) : Par l ⟨cls, tag, true, [], ks⟩ (k + n)
/-- these bytes are packets, one behind the other -/
inductive ParL : List Int → List S34 → Prop
  | nil : ParL [] []
  | cons {l : List Int} {x : S34} {n : Nat} {xs : List S34} (h : Par l x n) (hs : ParL (l.drop n) xs) : ParL l (x :: xs)
end
theorem Par.len {l : List Int} {x : S34} {n : Nat} (h : Par l x n) : 2 ≤ n ∧ n ≤ l.length := by
  cases h with
  | prim h hn => have := (hdrB_app [] h).2; simp only at this; omega
  | cons h hn hk => have := (hdrB_app [] h).2; simp only at this; omega
theorem Par.app {l : List Int} {x : S34} {n : Nat} (h : Par l x n) (m : List Int) : Par (l ++ m) x n := by
  cases h with
  | @prim _ cls tag n k h hn =>
    have h1 := hdrB_app m h
    have h2 : ((l ++ m).drop k).take n = (l.drop k).take n := by
      rw [List.drop_append_of_le_length (by omega), List.take_append_of_le_length (by rw [List.length_drop]; omega)]
    rw [← h2]
    exact .prim h1.1 (by simp; omega)
  | @cons _ cls tag n k ks h hn hk =>
    have h1 := hdrB_app m h
    have h2 : ((l ++ m).drop k).take n = (l.drop k).take n := by
      rw [List.drop_append_of_le_length (by omega), List.take_append_of_le_length (by rw [List.length_drop]; omega)]
    rw [← h2] at hk
    exact .cons h1.1 (by simp; omega) hk

-- the bytes of a packet
theorem beN_snoc (l : List Int) (b : Int) : beN (l ++ [b]) = beN l * 256 + b := by simp [beN]
theorem beN_be : ∀ (m : Nat) (x : Int), 0 ≤ x → x < ((256 ^ m : Nat) : Int) → beN (be x m) = x
  | 0, x, h0, h1 => by
    rw [Nat.pow_zero] at h1
    obtain rfl : x = 0 := by omega
    rfl
  | m + 1, x, h0, h1 => by
    rw [be_snoc, beN_snoc, beN_be m (x / 256) (by omega) (by rw [Nat.pow_succ] at h1; omega)]
    omega
theorem nd_lt : ∀ (k x : Nat), nd x ≤ k → x < 256 ^ k
  | 0, x, h => by have := nd_pos x; omega
  | k + 1, x, h => by
    by_cases hx : x < 256
    · exact Nat.lt_of_lt_of_le hx (by rw [Nat.pow_succ]; exact Nat.le_mul_of_pos_left _ (Nat.pow_pos (by decide)))
    · rw [nd_great hx] at h
      have := nd_lt k (x / 256) (by omega)
      rw [Nat.pow_succ]
      omega
theorem lenB_bytes (n : Nat) (h : n < 256 ^ 4) (m : List Int) : lenB (lenBytes n ++ m) = some ((n : Int), (lenBytes n).length) := by
  unfold lenBytes
  by_cases h1 : n < 128
  · rw [if_pos h1, List.singleton_append, lenB, if_pos (by omega)]
    rfl
  · have h2 := nd_pos n
    have h3 := nd_le 3 n h
    have e : (128 + (nd n : Int) - 128).toNat = nd n := by omega
    rw [if_neg h1, List.cons_append, lenB, if_neg (by omega), if_neg (by omega), e, if_pos (by rw [List.length_append, be_length]; omega)]
    have h4 : (be (n : Int) (nd n) ++ m).take (nd n) = be (n : Int) (nd n) := by rw [List.take_left' (be_length _ _)]
    rw [h4, beN_be (nd n) (n : Int) (by omega) (Int.ofNat_lt.2 (nd_lt (nd n) n (Nat.le_refl _)))]
    rw [List.length_cons, be_length]
theorem ng_div (t : Nat) : ∀ a, a ≤ ng t → ng (t / 128 ^ a) + a = ng t
  | 0, _ => by simp
  | a + 1, ha => by
    have h1 := ng_div t a (by omega)
    have hne : t / 128 ^ a ≠ 0 := fun e => by rw [e, ng_zero] at h1; omega
    have h2 := ng_pos hne
    rw [Nat.div_div_eq_div_mul, ← Nat.pow_succ] at h2
    show ng (t / 128 ^ (a + 1)) + (a + 1) = ng t
    have h3 : ng (t / 128 ^ a) = ng (t / 128 ^ (a + 1)) + 1 := h2
    omega
/-- the groups of a tag, the great one first: those behind the first i of them are read on -/
theorem tagB_low (t : Nat) (ht : t < 268435456) (h0 : t ≠ 0) (m : List Int) : ∀ (i : Nat), i ≤ ng t → ∀ j, j + i = ng t → (j = 0 → 0 < i) →
    tagB ((low (t : Int) i).reverse ++ m) ((t / 128 ^ i : Nat) : Int) j = if i = 0 then tagB m ((t : Nat) : Int) j else some ((t : Int), ng t)
  | 0, _, j, hj, _ => by simp [low]
  | i + 1, hi, j, hj, hj0 => by
    have h4 := ng_le 4 t (by omega)
    rw [low_snoc, List.reverse_append, List.reverse_singleton, List.singleton_append, List.cons_append, tagB]
    have hd : t / 128 ^ i = (t / 128 ^ (i + 1)) * 128 + t / 128 ^ i % 128 := by rw [Nat.pow_succ, ← Nat.div_div_eq_div_mul]; omega
    have hbig : ¬ (2097152 : Int) ≤ ((t / 128 ^ (i + 1) : Nat) : Int) := by
      have : t / 128 ^ (i + 1) ≤ t / 128 := Nat.div_le_div_left (by rw [Nat.pow_succ]; exact Nat.le_mul_of_pos_left _ (Nat.pow_pos (by decide))) (by decide)
      omega
    have hdig : dig (t : Int) i % 128 = ((t / 128 ^ i % 128 : Nat) : Int) ∧ (i = 0 → dig (t : Int) i < 128) ∧ (i ≠ 0 → ¬ dig (t : Int) i < 128) := by
      cases i with
      | zero =>
        rw [dig]
        exact ⟨by simp, fun _ => by omega, fun h => absurd rfl h⟩
      | succ i =>
        have e : dig (t : Int) (i + 1) = ((t / 128 ^ (i + 1) % 128 : Nat) : Int) + 128 := by rw [dig]; push_cast; rfl
        rw [e]
        exact ⟨by omega, fun h => absurd h (Nat.succ_ne_zero i), fun _ => by omega⟩
    have hz : ¬ (j = 0 ∧ dig (t : Int) i % 128 = 0) := by
      rintro ⟨rfl, h⟩
      rw [hdig.1] at h
      have hn : ng (t / 128 ^ i) + i = ng t := ng_div t i (by omega)
      have h1 : ng (t / 128 ^ i) = 1 := by
        clear hdig hbig hd h
        generalize ng (t / 128 ^ i) = a at hn ⊢
        omega
      have hne : t / 128 ^ i ≠ 0 := fun e => by rw [e, ng_zero] at h1; omega
      rw [ng_pos hne] at h1
      have h2 : t / 128 ^ i / 128 = 0 := by
        rcases Nat.eq_zero_or_pos (t / 128 ^ i / 128) with h2 | h2
        · exact h2
        · have := ng_pos (Nat.pos_iff_ne_zero.1 h2); omega
      omega
    rw [if_neg hbig, if_neg hz, hdig.1]
    have hacc : ((t / 128 ^ (i + 1) : Nat) : Int) * 128 + ((t / 128 ^ i % 128 : Nat) : Int) = ((t / 128 ^ i : Nat) : Int) := by omega
    rw [hacc, if_neg (Nat.succ_ne_zero i)]
    by_cases hi0 : i = 0
    · rw [if_pos (hdig.2.1 hi0)]
      subst hi0
      simp
      omega
    · rw [if_neg (hdig.2.2 hi0), tagB_low t ht h0 m i (by omega) (j + 1) (by omega) (fun h => by omega), if_neg hi0]
theorem idB_bytes (cls tag : Int) (c : Bool) (h0 : 0 ≤ cls) (h1 : cls ≤ 3) (t0 : 0 ≤ tag) (t1 : tag < 268435456) (m : List Int) : idB (identT cls tag c ++ m) = some (cls, c, tag, (identT cls tag c).length) := by
  unfold identT cb
  by_cases h : tag < 31
  · rw [if_pos h, List.singleton_append, idB]
    cases c
    · simp only [Bool.false_eq_true, if_false]
      rw [if_pos (by omega)]
      congr 1
      refine Prod.ext (by simp only; omega) (Prod.ext (by simp only [decide_eq_false_iff_not]; omega) (Prod.ext (by simp only; omega) rfl))
    · simp only [if_true]
      rw [if_pos (by omega)]
      congr 1
      refine Prod.ext (by simp only; omega) (Prod.ext (by simp only [decide_eq_true_eq]; omega) (Prod.ext (by simp only; omega) rfl))
  · obtain ⟨t, rfl⟩ : ∃ t : Nat, tag = t := ⟨tag.toNat, by omega⟩
    have hne : t ≠ 0 := by omega
    have hg : ng t ≠ 0 := by rw [ng_pos hne]; omega
    have hz : t / 128 ^ ng t = 0 := by
      have : ∀ a x, ng x ≤ a → x / 128 ^ a = 0 := by
        intro a
        induction a with
        | zero => intro x hx; by_cases e : x = 0
                  · simp [e]
                  · rw [ng_pos e] at hx; omega
        | succ a ih =>
          intro x hx
          by_cases e : x = 0
          · simp [e]
          · rw [ng_pos e] at hx
            have := ih (x / 128) (by omega)
            rw [Nat.div_div_eq_div_mul] at this
            rw [Nat.pow_succ, Nat.mul_comm]
            exact this
      exact this _ t (Nat.le_refl _)
    have ht := tagB_low t (by omega) hne m (ng t) (Nat.le_refl _) 0 (by omega) (fun _ => by omega)
    rw [hz, if_neg hg] at ht
    change tagB _ 0 0 = _ at ht
    rw [if_neg h, List.cons_append, idB, Int.toNat_natCast]
    cases c
    · simp only [Bool.false_eq_true, if_false]
      rw [if_neg (by omega), ht]
      simp only [Option.map_some, List.length_cons, List.length_reverse, low_length]
      congr 1
      refine Prod.ext (by simp only; omega) (Prod.ext (by simp only [decide_eq_false_iff_not]; omega) rfl)
    · simp only [if_true]
      rw [if_neg (by omega), ht]
      simp only [Option.map_some, List.length_cons, List.length_reverse, low_length]
      congr 1
      refine Prod.ext (by simp only; omega) (Prod.ext (by simp only [decide_eq_true_eq]; omega) rfl)
theorem hdrB_bytes (cls tag : Int) (c : Bool) (n : Nat) (hn : n < 256 ^ 4) (h0 : 0 ≤ cls) (h1 : cls ≤ 3) (t0 : 0 ≤ tag) (t1 : tag < 268435456) (m : List Int) :
    hdrB (identT cls tag c ++ lenBytes n ++ m) = some (cls, c, tag, (n : Int), (identT cls tag c).length + (lenBytes n).length) := by
  unfold hdrB
  rw [List.append_assoc, idB_bytes cls tag c h0 h1 t0 t1, Option.bind_some]
  simp only
  rw [List.drop_left' rfl, lenB_bytes n hn]
  rfl
mutual
theorem par_bytes : ∀ (x : S34), good x = true → (bytesT x).length < 256 ^ 4 → Par (bytesT x) x (bytesT x).length
  | ⟨a, b, c, d, l⟩, hg, hl => by
    rw [good] at hg
    simp only [Bool.and_eq_true, decide_eq_true_eq] at hg
    obtain ⟨⟨⟨⟨⟨a0, a1⟩, b0⟩, b1⟩, hc⟩, hgl⟩ := hg
    rw [bytesT] at hl ⊢
    have hlen : (d ++ bytesL l).length < 256 ^ 4 := by simp only [List.length_append] at hl ⊢; omega
    have hh := hdrB_bytes a b c (d ++ bytesL l).length hlen a0 a1 b0 b1 (d ++ bytesL l)
    have hdrop : (identT a b c ++ lenBytes (d ++ bytesL l).length ++ (d ++ bytesL l)).drop ((identT a b c).length + (lenBytes (d ++ bytesL l).length).length) = d ++ bytesL l := by
      rw [← List.length_append]
      exact List.drop_left' rfl
    have htk : ((identT a b c ++ lenBytes (d ++ bytesL l).length ++ (d ++ bytesL l)).drop ((identT a b c).length + (lenBytes (d ++ bytesL l).length).length)).take (d ++ bytesL l).length = d ++ bytesL l := by rw [hdrop, List.take_length]
    have hle : (identT a b c).length + (lenBytes (d ++ bytesL l).length).length + (d ++ bytesL l).length ≤ (identT a b c ++ lenBytes (d ++ bytesL l).length ++ (d ++ bytesL l)).length := by simp only [List.length_append]; omega
    have hlast : (identT a b c ++ lenBytes (d ++ bytesL l).length ++ (d ++ bytesL l)).length = (identT a b c).length + (lenBytes (d ++ bytesL l).length).length + (d ++ bytesL l).length := by simp only [List.length_append]
    rw [hlast]
    cases c with
    | false =>
      have hl0 : l = [] := by simpa using hc
      subst hl0
      have e := Par.prim hh hle
      rw [htk, bytesL, List.append_nil] at e
      simpa only [bytesL, List.append_nil] using e
    | true =>
      have hd0 : d = [] := by simpa using hc
      subst hd0
      have hk := parL_bytes l hgl (by simpa using hlen)
      rw [List.nil_append] at hh hdrop htk hle ⊢
      exact .cons hh hle (by rw [htk]; exact hk)
theorem parL_bytes : ∀ (l : List S34), goodL l = true → (bytesL l).length < 256 ^ 4 → ParL (bytesL l) l
  | [], _, _ => by rw [bytesL]; exact .nil
  | x :: xs, hg, hl => by
    rw [goodL, Bool.and_eq_true] at hg
    rw [bytesL] at hl ⊢
    rw [List.length_append] at hl
    have h1 := (par_bytes x hg.1 (by omega)).app (bytesL xs)
    refine .cons h1 ?_
    rw [List.drop_left' rfl]
    exact parL_bytes xs hg.2 (by omega)
end
theorem ParL.eq_nil {l : List Int} (h : ParL l []) : l = [] := by cases h; rfl
theorem ParL.inv {l : List Int} {x : S34} {xs : List S34} (h : ParL l (x :: xs)) : ∃ n, Par l x n ∧ ParL (l.drop n) xs := by
  cases h with
  | cons h hs => exact ⟨_, h, hs⟩
end Go.Proofs.YteockihoefbmdaaGreatDoor.Tree
namespace Go.Proofs.YteockihoefbmdaaGreatDoor.Ber
open Go.RowKit Go.Proofs.YteockihoefbmdaaGreatDoorW.PrintWords Go.Proofs.YteockihoefbmdaaGreatDoorW.PrintLast Go.Proofs.YteockihoefbmdaaGreatDoor.Buf Go.Proofs.YteockihoefbmdaaGreatDoor.Pk Go.Proofs.YteockihoefbmdaaGreatDoor.Tree
set_option linter.unusedVariables false
set_option linter.unusedSimpArgs false
section
variable {T F : Nat} {r : Value} {g B : Nat} {va ua : Addr} {Q : World → List Int → Prop}
theorem eql_same (va : Addr) (W : World) : (binOp .eql 103 (.iface 248 (.pointer (some va))) (.iface 248 (.pointer (some va)))).run Tryz.prog W = .ok (.bool true) W := by
  have h1 : (Tryz.prog.info? 248).map (·.comparable) = some true := by kernel_rfl
  have h2 : (Tryz.prog.info? 250).isSome = true := by kernel_rfl
  obtain ⟨i, hi, hc⟩ := Option.map_eq_some_iff.1 h1
  obtain ⟨j, hj⟩ := Option.isSome_iff_exists.1 h2
  exact run_eql_iface_ptr_same W va Tryz.underlying103 Tryz.underlying248 hi hc hj
theorem eql_other (va ua : Addr) (W : World) (hne : ua ≠ va) (h1 : ∃ ca ta, W.heap[va.block]? = some (.cells ca ta (0, 0))) (h2 : ∃ ca ta, W.heap[ua.block]? = some (.cells ca ta (0, 0))) : (binOp .eql 103 (.iface 248 (.pointer (some ua))) (.iface 248 (.pointer (some va)))).run Tryz.prog W = .ok (.bool false) W := by
  have e1 : (Tryz.prog.info? 248).map (·.comparable) = some true := by kernel_rfl
  have e2 : (Tryz.prog.info? 250).map (·.size) = some 1 := by kernel_rfl
  obtain ⟨i, hi, hc⟩ := Option.map_eq_some_iff.1 e1
  obtain ⟨j, hj, hs⟩ := Option.map_eq_some_iff.1 e2
  obtain ⟨ca, ta, hv⟩ := h1
  obtain ⟨cb, tb, hu⟩ := h2
  exact run_eql_iface_ptr_other W Tryz.underlying103 Tryz.underlying248 hi hc hj (by rw [hs]; decide) hne hu hv
set_option maxHeartbeats 3200000 in
set_option maxRecDepth 100000 in
theorem eof_turn (va ua : Addr) (W : World) (h1 : W.cell? ⟨0, 0, none⟩ = some (.iface 248 (.pointer (some va)))) (h2 : W.cell? ⟨1, 0, none⟩ = some (.iface 248 (.pointer (some ua)))) :
    Calls Tryz.prog 123 #[(.iface 248 (.pointer (some va)))] W fun e w' => e = .returned (.iface 248 (.pointer (some ua))) ∧ w' = W := by
  have hq := eql_same va W
  go_enter Tryz.func123, Tryz.ntmps123
  go_wp2
  go_ret
  exact ⟨rfl, rfl⟩
set_option maxHeartbeats 3200000 in
set_option maxRecDepth 100000 in
theorem ueof_turn (va ua : Addr) (W : World) (h1 : W.cell? ⟨0, 0, none⟩ = some (.iface 248 (.pointer (some va)))) (h2 : W.cell? ⟨1, 0, none⟩ = some (.iface 248 (.pointer (some ua)))) (h3 : ∃ ca ta, W.heap[va.block]? = some (.cells ca ta (0, 0))) (h4 : ∃ ca ta, W.heap[ua.block]? = some (.cells ca ta (0, 0))) :
    Calls Tryz.prog 123 #[(.iface 248 (.pointer (some ua)))] W fun e w' => e = .returned (.iface 248 (.pointer (some ua))) ∧ w' = W := by
  by_cases hq : ua = va
  · subst hq
    exact eof_turn ua ua W h1 h2
  · have hz := eql_other va ua W hq h3 h4
    clear h3 h4
    go_enter Tryz.func123, Tryz.ntmps123
    go_wp2
    go_ret
    exact ⟨rfl, rfl⟩
theorem and128 : ∀ n : Fin 256, Go.bits .and .u8 ((n : Nat) : Int) 128 = if n.val < 128 then 0 else 128 := by decide +kernel
theorem and127 : ∀ n : Fin 256, Go.bits .and .i64 ((n : Nat) : Int) 127 = ((n.val % 128 : Nat) : Int) := by decide +kernel
set_option maxHeartbeats 3200000 in
set_option maxRecDepth 100000 in
theorem readLen_short (R : RdSpec T F r g B va ua Q) (W : World) (b : Int) (l : List Int) (hQ : Q W (b :: l)) (hB : B ≤ W.heap.size) (b0 : 0 ≤ b) (b1 : b < 128) :
    Calls Tryz.prog 143 #[.iface T r] W fun e w' => e = .returned (.tuple #[.int .i64 b, .int .i64 1, .nilIface]) ∧ Q w' l ∧ Only (fun b => b = g) W w' := by
  have HA := Lib.hid (readByte_some R W b l hQ hB)
  have e1 : (b == 255) = false := by simp; omega
  have e2 : (b == 128) = false := by simp; omega
  have e3 : Go.bits .and .u8 b 128 = 0 := by
    have := and128 ⟨b.toNat, by omega⟩
    simp only [Int.toNat_of_nonneg b0] at this
    rw [this, if_pos (by omega)]
  have e4 : Go.bits .and .i64 b 127 = b := by
    have := and127 ⟨b.toNat, by omega⟩
    simp only [Int.toNat_of_nonneg b0] at this
    rw [this]
    omega
  clear hQ R hB
  go_enter Tryz.func143, Tryz.ntmps143
  go_wp2_with (go_at_call 156
               with_reducible refine HA.out.mono ?_
               rintro e W5 ⟨rfl, hQ5⟩
               have HQ5 := Lib.hid hQ5
               clear hQ5)
  go_ret3
  exact ⟨rfl, HQ5.out⟩
set_option maxHeartbeats 3200000 in
set_option maxRecDepth 100000 in
theorem readLen_none (R : RdSpec T F r g B va ua Q) (W : World) (hQ : Q W []) (hB : B ≤ W.heap.size) :
    Calls Tryz.prog 143 #[.iface T r] W fun e w' => e = .returned (.tuple #[.int .i64 0, .int .i64 0, (.iface 248 (.pointer (some ua)))]) ∧ Q w' [] ∧ Only (fun b => b = g) W w' := by
  have HA := Lib.hid (readByte_none R W hQ hB)
  have HE : Hid (∀ W', Q W' [] → Calls Tryz.prog 123 #[(.iface 248 (.pointer (some va)))] W' fun e w' => e = .returned (.iface 248 (.pointer (some ua))) ∧ w' = W') := Lib.hid (fun W' h => eof_turn va ua W' (R.eof _ _ h) (R.ueof _ _ h))
  clear hQ R hB
  go_enter Tryz.func143, Tryz.ntmps143
  go_wp2_with (first
    | (go_at_call 156
       with_reducible refine HA.out.mono ?_
       rintro e W5 ⟨rfl, hQ5⟩
       have HQ5 := Lib.hid hQ5
       clear hQ5)
    | (go_at_call 123
       with_reducible refine (HE.out W5 HQ5.out.1).mono ?_
       rintro e W6 ⟨rfl, rfl⟩))
  go_ret3
  exact ⟨rfl, HQ5.out⟩
theorem or_u64 (u z : Int) (h0 : 0 ≤ u) (h1 : u < 16777216) (z0 : 0 ≤ z) (z1 : z < 256) : Go.bits .or .u64 (u * 256) z = u * 256 + z := by
  obtain ⟨M, rfl⟩ : ∃ M : Nat, u = M := ⟨u.toNat, by omega⟩
  obtain ⟨b, rfl⟩ : ∃ b : Nat, z = b := ⟨z.toNat, by omega⟩
  show IntKind.u64.wrap ((BitVec.ofInt 64 ((M : Int) * 256) ||| BitVec.ofInt 64 (b : Int)).toNat : Int) = _
  rw [BitVec.toNat_or, BitVec.toNat_ofInt, BitVec.toNat_ofInt]
  have e0 : ((2 ^ 64 : Nat) : Int) = 18446744073709551616 := by decide
  rw [e0]
  have e1 : ((M : Int) * 256 % 18446744073709551616).toNat = 2 ^ 8 * M := by omega
  have e2 : ((b : Int) % 18446744073709551616).toNat = b := by omega
  rw [e1, e2]
  have e3 : 2 ^ 8 * M ||| b = 2 ^ 8 * M + b := (Nat.two_pow_add_eq_or_of_lt (show b < 2 ^ 8 by omega) M).symm
  rw [e3]
  show IntKind.u64.wrap _ = _
  rw [IntKind.wrap_u64]
  omega
theorem beN_take_lt (xs : List Int) (hx : ∀ x ∈ xs, 0 ≤ x ∧ x < 256) : ∀ k, k ≤ xs.length → 0 ≤ beN (xs.take k) ∧ beN (xs.take k) < ((256 ^ k : Nat) : Int)
  | 0, _ => by simp [beN]
  | k + 1, hk => by
    obtain ⟨h1, h2⟩ := beN_take_lt xs hx k (by omega)
    have h3 := hx xs[k] (List.getElem_mem (by omega))
    rw [List.take_succ_eq_append_getElem (by omega), beN_snoc, Nat.pow_succ]
    constructor <;> omega
set_option maxHeartbeats 3200000 in
set_option maxRecDepth 100000 in
theorem readLen_long (R : RdSpec T F r g B va ua Q) (W : World) (b : Int) (xs l : List Int) (hQ : Q W (b :: (xs ++ l))) (hB : B ≤ W.heap.size) (hb : b = 128 + (xs.length : Int)) (h1 : 1 ≤ xs.length) (h4 : xs.length ≤ 4) (hx : ∀ x ∈ xs, 0 ≤ x ∧ x < 256) :
    Calls Tryz.prog 143 #[.iface T r] W fun e w' => e = .returned (.tuple #[.int .i64 (beN xs), .int .i64 ((xs.length + 1 : Nat) : Int), .nilIface]) ∧ Q w' l ∧ Only (fun b => b = g) W w' := by
  have HA := Lib.hid (readByte_some R W b (xs ++ l) hQ hB)
  have HRB : Hid (∀ (W' : World) (x : Int) (m : List Int), Q W' (x :: m) → Only (fun b => b = g) W W' → Calls Tryz.prog 156 #[.iface T r] W' fun e w' => e = .returned (.tuple #[.int .u8 x, .nilIface]) ∧ Q w' m ∧ Only (fun b => b = g) W w') := Lib.hid (fun W' x m hq ho => by
    refine (readByte_some R W' x m hq (Nat.le_trans hB ho.size)).mono ?_
    rintro e w' ⟨he, hq', ho'⟩
    exact ⟨he, hq', ho.trans ho' (fun i _ h => h)⟩)
  have e1 : (b == 255) = false := by simp; omega
  have e2 : (b == 128) = false := by simp; omega
  have e3 : Go.bits .and .u8 b 128 = 128 := by
    have := and128 ⟨b.toNat, by omega⟩
    simp only [Int.toNat_of_nonneg (show 0 ≤ b by omega)] at this
    rw [this, if_neg (by omega)]
  obtain ⟨c, hc⟩ : ∃ c : Int, c = (xs.length : Int) := ⟨_, rfl⟩
  have e4 : Go.bits .and .i64 b 127 = c := by
    have := and127 ⟨b.toNat, by omega⟩
    simp only [Int.toNat_of_nonneg (show 0 ≤ b by omega)] at this
    rw [this]
    omega
  have e5 : decide (8 < c) = false := decide_eq_false (by omega)
  have hb0 : 0 ≤ b := by omega
  have hb1 : b < 256 := by omega
  have hc4 : c ≤ 4 := by omega
  have hc1 : 1 ≤ c := by omega
  have HB4 := Lib.hid (beN_take_lt xs hx)
  have HX := Lib.hid hx
  have HC := Lib.hid hc
  have HL := Lib.hid (And.intro h1 h4)
  clear hQ R hB hb h1 h4 hx hc
  go_enter Tryz.func143, Tryz.ntmps143
  go_wp2_with (go_at_call 156
               with_reducible refine HA.out.mono ?_
               rintro e W5 ⟨rfl, hQ5⟩
               have HQ5 := Lib.hid hQ5
               clear hQ5)
  go_loopw [3, 4, 5, 7, 8] (fun rd er bb ln i wr => ∃ (k : Nat) (q u y : Int), k ≤ xs.length ∧ rd = .int .i64 q ∧ q = 1 + (k : Int) ∧ er = .nilIface ∧ bb = .int .u8 y ∧ ln = .int .u64 u ∧ u = beN (xs.take k) ∧ i = .int .i64 k ∧ Hid (Q wr (xs.drop k ++ l) ∧ Only (fun b => b = g) W wr)) (fun _ _ _ _ i _ => xs.length - (intOf i).toNat)
  case atStart => exact ⟨0, 1, 0, b, Nat.zero_le _, rfl, rfl, rfl, rfl, rfl, rfl, rfl, Lib.hid ⟨by simpa using HQ5.out.1, HQ5.out.2⟩⟩
  case round =>
    obtain ⟨k, q, u, y, hk, rfl, hq, rfl, rfl, rfl, hu, rfl, HP⟩ := hrel
    have HU := Lib.hid hu
    have HQQ := Lib.hid hq
    have hub := HB4.out k hk
    rw [← hu] at hub
    have hq1 : 1 ≤ q := by omega
    have hq5 : q ≤ 5 := by have := HL.out.2; omega
    by_cases hlt : k < xs.length
    · have hd1 : decide ((k : Int) < c) = true := decide_eq_true (by have := HC.out; omega)
      have hu0 : 0 ≤ u := hub.1
      have hu3 : u < 16777216 := by
        have h5 := hub.2
        have h6 := HL.out.2
        have h7 : 256 ^ k ≤ 256 ^ 3 := Nat.pow_le_pow_right (by decide) (by omega)
        have h8 : (256 ^ 3 : Nat) = 16777216 := by decide
        omega
      have HRX := Lib.hid (HRB.out wr xs[k] (xs.drop (k + 1) ++ l) (by have h := HP.out.1; rwa [List.drop_eq_getElem_cons hlt, List.cons_append] at h) HP.out.2)
      have hxk := HX.out xs[k] (List.getElem_mem hlt)
      have HN : Hid (beN (xs.take (k + 1)) = u * 256 + xs[k]) := Lib.hid (by rw [List.take_succ_eq_append_getElem hlt, beN_snoc, HU.out])
      obtain ⟨z, hz⟩ : ∃ z, z = xs[k] := ⟨_, rfl⟩
      rw [← hz] at HRX hxk HN
      have hz0 : 0 ≤ z := hxk.1
      have hz1 : z < 256 := hxk.2
      clear hub hu hq hxk hz
      go_wp2_with (go_at_call 156
                   with_reducible refine HRX.out.mono ?_
                   rintro e W6 ⟨rfl, hQ6⟩
                   have HQ6 := Lib.hid hQ6
                   clear hQ6)
      exact ⟨⟨k + 1, q + 1, u * 256 + z, z, hlt, rfl, by have := HQQ.out; push_cast; omega, rfl, rfl, by rw [or_u64 u z hu0 hu3 hz0 hz1], HN.out.symm, by first | rfl | go_num | (congr 1; have := HL.out.2; unfold wrap64; omega), HQ6⟩, by
        have e : wrap64 ((k : Int) + 1) = ((k + 1 : Nat) : Int) := by have := HL.out.2; unfold wrap64; omega
        rw [e]
        simp [intOf]
        omega⟩
    · obtain rfl : k = xs.length := by omega
      have hd1 : decide (((xs.length : Nat) : Int) < c) = false := decide_eq_false (by have := HC.out; omega)
      have hu0 : 0 ≤ u := hub.1
      have hu4 : u < 4294967296 := by
        have h5 := hub.2
        have h6 := HL.out.2
        have h7 : 256 ^ xs.length ≤ 256 ^ 4 := Nat.pow_le_pow_right (by decide) h6
        have h8 : (256 ^ 4 : Nat) = 4294967296 := by decide
        omega
      have hd2 : decide (u < 0) = false := decide_eq_false (by omega)
      have HFU : Hid (u = beN xs) := Lib.hid (by rw [HU.out, List.take_length])
      have HP2 : Hid (Q wr l) := Lib.hid (by have h := HP.out.1; rwa [List.drop_length, List.nil_append] at h)
      clear hub hu hq
      go_wp2
      go_ret3
      exact ⟨by show Ending.returned (.tuple #[.int .i64 u, .int .i64 q, .nilIface]) = _; rw [← HFU.out, ← show q = ((xs.length + 1 : Nat) : Int) from by have := HQQ.out; omega], HP2.out, HP.out.2⟩
/-- an error, and how many bytes were read -/
def LenCut (P : Int → Prop) (u : Value) (e : Ending) : Prop := ∃ q, P q ∧ e = .returned (.tuple #[.int .i64 0, .int .i64 q, u])
set_option maxHeartbeats 3200000 in
set_option maxRecDepth 100000 in
theorem readLen_cut (R : RdSpec T F r g B va ua Q) (W : World) (b : Int) (xs : List Int) (c : Int) (hQ : Q W (b :: xs)) (hB : B ≤ W.heap.size) (hb : b = 128 + c) (hcx : (xs.length : Int) < c) (hc4 : c ≤ 4) (hx : ∀ x ∈ xs, 0 ≤ x ∧ x < 256) :
    Calls Tryz.prog 143 #[.iface T r] W fun e w' => LenCut (fun _ => True) (.iface 248 (.pointer (some ua))) e ∧ Q w' [] ∧ Only (fun b => b = g) W w' := by
  have HA := Lib.hid (readByte_some R W b xs hQ hB)
  have HRB : Hid (∀ (W' : World) (x : Int) (m : List Int), Q W' (x :: m) → Only (fun b => b = g) W W' → Calls Tryz.prog 156 #[.iface T r] W' fun e w' => e = .returned (.tuple #[.int .u8 x, .nilIface]) ∧ Q w' m ∧ Only (fun b => b = g) W w') := Lib.hid (fun W' x m hq ho => by
    refine (readByte_some R W' x m hq (Nat.le_trans hB ho.size)).mono ?_
    rintro e w' ⟨he, hq', ho'⟩
    exact ⟨he, hq', ho.trans ho' (fun i _ h => h)⟩)
  have e1 : (b == 255) = false := by simp; omega
  have e2 : (b == 128) = false := by simp; omega
  have e3 : Go.bits .and .u8 b 128 = 128 := by
    have := and128 ⟨b.toNat, by omega⟩
    simp only [Int.toNat_of_nonneg (show 0 ≤ b by omega)] at this
    rw [this, if_neg (by omega)]
  have e4 : Go.bits .and .i64 b 127 = c := by
    have := and127 ⟨b.toNat, by omega⟩
    simp only [Int.toNat_of_nonneg (show 0 ≤ b by omega)] at this
    rw [this]
    omega
  have e5 : decide (8 < c) = false := decide_eq_false (by omega)
  have hb0 : 0 ≤ b := by omega
  have hb1 : b < 256 := by omega
  have hc1 : 1 ≤ c := by omega
  have HB4 := Lib.hid (beN_take_lt xs hx)
  have HX := Lib.hid hx
  have HC := Lib.hid hcx
  have HL : Hid (xs.length ≤ 3) := Lib.hid (by omega)
  have HNO : Hid (∀ W' : World, Q W' [] → Only (fun b => b = g) W W' → Calls Tryz.prog 156 #[.iface T r] W' fun e w' => e = .returned (.tuple #[.int .u8 0, (.iface 248 (.pointer (some va)))]) ∧ Q w' [] ∧ Only (fun b => b = g) W w') := Lib.hid (fun W' hq ho => by
    refine (readByte_none R W' hq (Nat.le_trans hB ho.size)).mono ?_
    rintro e w' ⟨he, hq', ho'⟩
    exact ⟨he, hq', ho.trans ho' (fun i _ h => h)⟩)
  have HE : Hid (∀ W', Q W' [] → Calls Tryz.prog 123 #[(.iface 248 (.pointer (some va)))] W' fun e w' => e = .returned (.iface 248 (.pointer (some ua))) ∧ w' = W') := Lib.hid (fun W' h => eof_turn va ua W' (R.eof _ _ h) (R.ueof _ _ h))
  clear hQ R hB hb hx hcx
  go_enter Tryz.func143, Tryz.ntmps143
  go_wp2_with (go_at_call 156
               with_reducible refine HA.out.mono ?_
               rintro e W5 ⟨rfl, hQ5⟩
               have HQ5 := Lib.hid hQ5
               clear hQ5)
  go_loopw [3, 4, 5, 7, 8] (fun rd er bb ln i wr => ∃ (k : Nat) (q u y : Int), k ≤ xs.length ∧ rd = .int .i64 q ∧ q = 1 + (k : Int) ∧ er = .nilIface ∧ bb = .int .u8 y ∧ ln = .int .u64 u ∧ u = beN (xs.take k) ∧ i = .int .i64 k ∧ Hid (Q wr (xs.drop k) ∧ Only (fun b => b = g) W wr)) (fun _ _ _ _ i _ => xs.length - (intOf i).toNat)
  case atStart => exact ⟨0, 1, 0, b, Nat.zero_le _, rfl, rfl, rfl, rfl, rfl, rfl, rfl, Lib.hid ⟨by simpa using HQ5.out.1, HQ5.out.2⟩⟩
  case round =>
    obtain ⟨k, q, u, y, hk, rfl, hq, rfl, rfl, rfl, hu, rfl, HP⟩ := hrel
    have HU := Lib.hid hu
    have HQQ := Lib.hid hq
    have hub := HB4.out k hk
    rw [← hu] at hub
    have hq1 : 1 ≤ q := by omega
    have hq5 : q ≤ 5 := by have := HL.out; omega
    by_cases hlt : k < xs.length
    · have hd1 : decide ((k : Int) < c) = true := decide_eq_true (by have := HC.out; omega)
      have hu0 : 0 ≤ u := hub.1
      have hu3 : u < 16777216 := by
        have h5 := hub.2
        have h6 := HL.out
        have h7 : 256 ^ k ≤ 256 ^ 3 := Nat.pow_le_pow_right (by decide) (by omega)
        have h8 : (256 ^ 3 : Nat) = 16777216 := by decide
        omega
      have HRX := Lib.hid (HRB.out wr xs[k] (xs.drop (k + 1)) (by have h := HP.out.1; rwa [List.drop_eq_getElem_cons hlt] at h) HP.out.2)
      have hxk := HX.out xs[k] (List.getElem_mem hlt)
      have HN : Hid (beN (xs.take (k + 1)) = u * 256 + xs[k]) := Lib.hid (by rw [List.take_succ_eq_append_getElem hlt, beN_snoc, HU.out])
      obtain ⟨z, hz⟩ : ∃ z, z = xs[k] := ⟨_, rfl⟩
      rw [← hz] at HRX hxk HN
      have hz0 : 0 ≤ z := hxk.1
      have hz1 : z < 256 := hxk.2
      clear hub hu hq hxk hz
      go_wp2_with (go_at_call 156
                   with_reducible refine HRX.out.mono ?_
                   rintro e W6 ⟨rfl, hQ6⟩
                   have HQ6 := Lib.hid hQ6
                   clear hQ6)
      exact ⟨⟨k + 1, q + 1, u * 256 + z, z, hlt, rfl, by have := HQQ.out; push_cast; omega, rfl, rfl, by rw [or_u64 u z hu0 hu3 hz0 hz1], HN.out.symm, by first | rfl | go_num | (congr 1; have := HL.out; unfold wrap64; omega), HQ6⟩, by
        have e : wrap64 ((k : Int) + 1) = ((k + 1 : Nat) : Int) := by have := HL.out; unfold wrap64; omega
        rw [e]
        simp [intOf]
        omega⟩
    · obtain rfl : k = xs.length := by omega
      have hd1 : decide (((xs.length : Nat) : Int) < c) = true := decide_eq_true (by have := HC.out; omega)
      have HP2 : Hid (Q wr []) := Lib.hid (by have h := HP.out.1; rwa [List.drop_length] at h)
      have HNX := Lib.hid (HNO.out wr HP2.out HP.out.2)
      clear hub hu hq
      go_wp2_with (first
        | (go_at_call 156
           with_reducible refine HNX.out.mono ?_
           rintro e W6 ⟨rfl, hQ6⟩
           have HQ6 := Lib.hid hQ6
           clear hQ6)
        | (go_at_call 123
           with_reducible refine (HE.out W6 HQ6.out.1).mono ?_
           rintro e W7 ⟨rfl, rfl⟩))
      go_ret3
      exact ⟨⟨q, trivial, rfl⟩, HQ6.out⟩
end
end Go.Proofs.YteockihoefbmdaaGreatDoor.Ber
namespace Go.Proofs.YteockihoefbmdaaGreatDoor.Ber
open Go.RowKit Go.Proofs.YteockihoefbmdaaGreatDoorW.PrintWords Go.Proofs.YteockihoefbmdaaGreatDoorW.PrintLast Go.Proofs.YteockihoefbmdaaGreatDoor.Buf Go.Proofs.YteockihoefbmdaaGreatDoor.Pk Go.Proofs.YteockihoefbmdaaGreatDoor.Tree
set_option linter.unusedVariables false
set_option linter.unusedSimpArgs false
theorem results_ctt {P : Program} {fn : Func} {p u q : Tmp} {ty : TypeId} (h : fn.results = #[.cell p ty, .tmp u, .tmp q]) (tmps : Array Value) (w : World) (g : Nat) (t : TypeId) (cs : Array Value) (fr : Nat × Nat) (d : TypeDesc)
    (hp : tmps.getD p undef = .pointer (some ⟨g, 0, none⟩)) (hg : w.heap[g]? = some (.cells cs t fr))
    (hu : P.underlying ty = some d) (hd : (match d with | .struct _ | .array _ _ => true | _ => false) = true) (hi : (P.info? ty).map (·.size) = some cs.size) :
    (results fn tmps).run P w = .ok (.tuple #[.agg cs, tmps.getD u undef, tmps.getD q undef]) w := by
  have hp' : tmps[p]?.getD undef = .pointer (some ⟨g, 0, none⟩) := by simpa using hp
  simp [results, h, hp', asAddr, run_loadVar_row w g t ty cs fr d hg hu hd hi]
theorem bits_id : ∀ n : Fin 256, Go.bits .and .u8 ((n : Nat) : Int) 192 = ((n.val / 64 * 64 : Nat) : Int) ∧ Go.bits .and .u8 ((n : Nat) : Int) 32 = ((n.val / 32 % 2 * 32 : Nat) : Int) ∧ Go.bits .and .u64 ((n : Nat) : Int) 31 = ((n.val % 32 : Nat) : Int) := by decide +kernel
section
variable {T F : Nat} {r : Value} {g B : Nat} {va ua : Addr} {Q : World → List Int → Prop}
set_option maxHeartbeats 3200000 in
set_option maxRecDepth 100000 in
theorem readId_short (R : RdSpec T F r g B va ua Q) (W : World) (b : Int) (l : List Int) (hQ : Q W (b :: l)) (hB : B ≤ W.heap.size) (b0 : 0 ≤ b) (b1 : b < 256) (hs : b % 32 < 31) :
    Calls Tryz.prog 142 #[.iface T r] W fun e w' => e = .returned (.tuple #[.agg #[.int .u8 (b / 64 * 64), .int .u8 (b / 32 % 2 * 32), .int .u64 (b % 32)], .int .i64 1, .nilIface]) ∧ Q w' l ∧ Only (fun b => b = g) W w' := by
  obtain ⟨W0, hW0⟩ : ∃ W0, W0 = (W.alloc (.cells #[.int .u8 0, .int .u8 0, .int .u64 0] 82)).alloc (.cells #[.int .u8 0, .int .u8 0, .int .u64 0] 82) := ⟨_, rfl⟩
  have hb0 : Below W.heap.size W W0 := by rw [hW0]; exact below_alloc (below_alloc (Below.refl _ _) _) _
  have hX0 : W0.heap[W.heap.size]? = some (.cells #[.int .u8 0, .int .u8 0, .int .u64 0] 82 (0, 0)) := by rw [hW0]; exact blk_alloc (blk_new _ _) _
  have hY0 : W0.heap[W.heap.size + 1]? = some (.cells #[.int .u8 0, .int .u8 0, .int .u64 0] 82 (0, 0)) := by
    have := blk_new (W.alloc (.cells #[.int .u8 0, .int .u8 0, .int .u64 0] 82)) (.cells #[.int .u8 0, .int .u8 0, .int .u64 0] 82)
    have e : (W.alloc (.cells #[.int .u8 0, .int .u8 0, .int .u64 0] 82)).heap.size = W.heap.size + 1 := by simp
    rw [e, ← hW0] at this
    exact this
  have hgs : g < W.heap.size := Nat.lt_of_lt_of_le R.lt hB
  have HA : Hid (Calls Tryz.prog 156 #[.iface T r] W0 fun e w' => e = .returned (.tuple #[.int .u8 b, .nilIface]) ∧ Q w' l ∧ w'.heap[W.heap.size]? = some (.cells #[.int .u8 0, .int .u8 0, .int .u64 0] 82 (0, 0)) ∧ w'.heap[W.heap.size + 1]? = some (.cells #[.int .u8 0, .int .u8 0, .int .u64 0] 82 (0, 0)) ∧ Only (fun b => b = g) W w') := Lib.hid (by
    refine (readByte_some R W0 b l (R.keep W W0 _ hQ (fun i hi => hb0.block i (Nat.lt_of_lt_of_le hi hB))) (Nat.le_trans hB hb0.size)).mono ?_
    rintro e w' ⟨he, hq, ho⟩
    exact ⟨he, hq, (ho.block _ (blk_lt hX0) (by omega)).trans hX0, (ho.block _ (blk_lt hY0) (by omega)).trans hY0, (Only.of_below (fun b => b = g) hb0).trans ho (fun i _ h => h)⟩)
  obtain ⟨a1, a2, a3⟩ := bits_id ⟨b.toNat, by omega⟩
  simp only [Int.toNat_of_nonneg b0] at a1 a2 a3
  have e1 : Go.bits .and .u8 b 192 = b / 64 * 64 := by rw [a1]; omega
  have e2 : Go.bits .and .u8 b 32 = b / 32 % 2 * 32 := by rw [a2]; omega
  have e3 : Go.bits .and .u64 b 31 = b % 32 := by rw [a3]; omega
  have e4 : (b % 32 != 31) = true := by simp; omega
  have e5 : (b % 32 == 31) = false := by simp; omega
  have HKQ : Hid (∀ W5 W', Q W5 l → W.heap.size ≤ W5.heap.size → (∀ i, i < W.heap.size → W'.heap[i]? = W5.heap[i]?) → Q W' l) := Lib.hid (fun W5 W' hq _ h => R.keep W5 W' l hq (fun i hi => h i (Nat.lt_of_lt_of_le hi hB)))
  have HW0 := Lib.hid hW0
  obtain ⟨x1, hx1⟩ : ∃ x1, x1 = b / 64 * 64 := ⟨_, rfl⟩
  obtain ⟨x2, hx2⟩ : ∃ x2, x2 = b / 32 % 2 * 32 := ⟨_, rfl⟩
  obtain ⟨x3, hx3⟩ : ∃ x3, x3 = b % 32 := ⟨_, rfl⟩
  rw [← hx1] at e1 ⊢
  rw [← hx2] at e2 ⊢
  rw [← hx3] at e3 e4 e5 ⊢
  clear hQ R hB hb0 hX0 hY0 hW0 a1 a2 a3 hx1 hx2 hx3 hs
  go_enter Tryz.func142, Tryz.ntmps142
  go_upto_region 3 with fail
  rw [← HW0.out]
  go_wp2_with (go_at_call 156
               with_reducible refine HA.out.mono ?_
               rintro e W5 ⟨rfl, hQ5, hX5, hY5, hO5⟩
               have HQ5 := Lib.hid hQ5
               have HX5 := Lib.hid hX5
               have HY5 := Lib.hid hY5
               have HO5 := Lib.hid hO5
               have s0 : W5.cell? ⟨W.heap.size + 1, 0, none⟩ = some (.int .u8 0) := blk_cell hY5 0
               have s1 : W5.cell? ⟨W.heap.size + 1, 1, none⟩ = some (.int .u8 0) := blk_cell hY5 1
               have s2 : W5.cell? ⟨W.heap.size + 1, 2, none⟩ = some (.int .u64 0) := blk_cell hY5 2
               have f0 : W5.frozen? ⟨W.heap.size + 1, 0, none⟩ = false := blk_frozen hY5 0
               have f1 : W5.frozen? ⟨W.heap.size + 1, 1, none⟩ = false := blk_frozen hY5 1
               have f2 : W5.frozen? ⟨W.heap.size + 1, 2, none⟩ = false := blk_frozen hY5 2
               have p0 : W5.cell? ⟨W.heap.size, 0, none⟩ = some (.int .u8 0) := blk_cell hX5 0
               have p1 : W5.cell? ⟨W.heap.size, 1, none⟩ = some (.int .u8 0) := blk_cell hX5 1
               have p2 : W5.cell? ⟨W.heap.size, 2, none⟩ = some (.int .u64 0) := blk_cell hX5 2
               have pf0 : W5.frozen? ⟨W.heap.size, 0, none⟩ = false := blk_frozen hX5 0
               have pf1 : W5.frozen? ⟨W.heap.size, 1, none⟩ = false := blk_frozen hX5 1
               have pf2 : W5.frozen? ⟨W.heap.size, 2, none⟩ = false := blk_frozen hX5 2
               clear hQ5 hX5 hY5 hO5)
  try simp only [Exit.inBlock, Exit.then]
  have hY6 := blk_set (blk_set (blk_set HY5.out 0 (.int .u8 x1)) 1 (.int .u8 x2)) 2 (.int .u64 x3)
  have hX6 := blk_set (blk_set (blk_set (blk_far (blk_far (blk_far HX5.out (p := ⟨W.heap.size + 1, 0, none⟩) (by simp) (.int .u8 x1)) (p := ⟨W.heap.size + 1, 1, none⟩) (by simp) (.int .u8 x2)) (p := ⟨W.heap.size + 1, 2, none⟩) (by simp) (.int .u64 x3)) 0 (.int .u8 x1)) 1 (.int .u8 x2)) 2 (.int .u64 x3)
  refine bodyPost_ret (results_ctt (p := 2) (u := 3) (q := 4) rfl _ _ _ _ _ _ _ rfl hX6 Tryz.underlying82 rfl (by kernel_rfl)) rfl ⟨rfl, HKQ.out W5 _ HQ5.out HO5.out.size (fun i hi => ?_), ?_⟩
  · rw [Below.heap_setCell _ ⟨W.heap.size, 2, none⟩ _ i (by show i ≠ W.heap.size; omega), Below.heap_setCell _ ⟨W.heap.size, 1, none⟩ _ i (by show i ≠ W.heap.size; omega), Below.heap_setCell _ ⟨W.heap.size, 0, none⟩ _ i (by show i ≠ W.heap.size; omega),
      Below.heap_setCell _ ⟨W.heap.size + 1, 2, none⟩ _ i (by show i ≠ W.heap.size + 1; omega), Below.heap_setCell _ ⟨W.heap.size + 1, 1, none⟩ _ i (by show i ≠ W.heap.size + 1; omega), Below.heap_setCell _ ⟨W.heap.size + 1, 0, none⟩ _ i (by show i ≠ W.heap.size + 1; omega)]
  · exact (((((HO5.out.setCell (a := ⟨W.heap.size + 1, 0, none⟩) (fun h => absurd h (by simp)) _).setCell (a := ⟨W.heap.size + 1, 1, none⟩) (fun h => absurd h (by simp)) _).setCell (a := ⟨W.heap.size + 1, 2, none⟩) (fun h => absurd h (by simp)) _).setCell (a := ⟨W.heap.size, 0, none⟩) (fun h => absurd h (by simp)) _).setCell (a := ⟨W.heap.size, 1, none⟩) (fun h => absurd h (by simp)) _).setCell (a := ⟨W.heap.size, 2, none⟩) (fun h => absurd h (by simp)) _
set_option maxHeartbeats 3200000 in
set_option maxRecDepth 100000 in
theorem readId_none (R : RdSpec T F r g B va ua Q) (W : World) (hQ : Q W []) (hB : B ≤ W.heap.size) :
    Calls Tryz.prog 142 #[.iface T r] W fun e w' => e = .returned (.tuple #[.agg #[.int .u8 0, .int .u8 0, .int .u64 0], .int .i64 0, (.iface 248 (.pointer (some va)))]) ∧ Q w' [] ∧ Only (fun b => b = g) W w' := by
  obtain ⟨W0, hW0⟩ : ∃ W0, W0 = (W.alloc (.cells #[.int .u8 0, .int .u8 0, .int .u64 0] 82)).alloc (.cells #[.int .u8 0, .int .u8 0, .int .u64 0] 82) := ⟨_, rfl⟩
  have hb0 : Below W.heap.size W W0 := by rw [hW0]; exact below_alloc (below_alloc (Below.refl _ _) _) _
  have hX0 : W0.heap[W.heap.size]? = some (.cells #[.int .u8 0, .int .u8 0, .int .u64 0] 82 (0, 0)) := by rw [hW0]; exact blk_alloc (blk_new _ _) _
  have hY0 : W0.heap[W.heap.size + 1]? = some (.cells #[.int .u8 0, .int .u8 0, .int .u64 0] 82 (0, 0)) := by
    have := blk_new (W.alloc (.cells #[.int .u8 0, .int .u8 0, .int .u64 0] 82)) (.cells #[.int .u8 0, .int .u8 0, .int .u64 0] 82)
    have e : (W.alloc (.cells #[.int .u8 0, .int .u8 0, .int .u64 0] 82)).heap.size = W.heap.size + 1 := by simp
    rw [e, ← hW0] at this
    exact this
  have hgs : g < W.heap.size := Nat.lt_of_lt_of_le R.lt hB
  have HA : Hid (Calls Tryz.prog 156 #[.iface T r] W0 fun e w' => e = .returned (.tuple #[.int .u8 0, (.iface 248 (.pointer (some va)))]) ∧ Q w' [] ∧ w'.heap[W.heap.size]? = some (.cells #[.int .u8 0, .int .u8 0, .int .u64 0] 82 (0, 0)) ∧ w'.heap[W.heap.size + 1]? = some (.cells #[.int .u8 0, .int .u8 0, .int .u64 0] 82 (0, 0)) ∧ Only (fun b => b = g) W w') := Lib.hid (by
    refine (readByte_none R W0 (R.keep W W0 _ hQ (fun i hi => hb0.block i (Nat.lt_of_lt_of_le hi hB))) (Nat.le_trans hB hb0.size)).mono ?_
    rintro e w' ⟨he, hq, ho⟩
    exact ⟨he, hq, (ho.block _ (blk_lt hX0) (by omega)).trans hX0, (ho.block _ (blk_lt hY0) (by omega)).trans hY0, (Only.of_below (fun b => b = g) hb0).trans ho (fun i _ h => h)⟩)
  have HKQ : Hid (∀ W5 W', Q W5 [] → W.heap.size ≤ W5.heap.size → (∀ i, i < W.heap.size → W'.heap[i]? = W5.heap[i]?) → Q W' []) := Lib.hid (fun W5 W' hq _ h => R.keep W5 W' [] hq (fun i hi => h i (Nat.lt_of_lt_of_le hi hB)))
  have HW0 := Lib.hid hW0
  clear hQ R hB hb0 hX0 hY0 hW0
  go_enter Tryz.func142, Tryz.ntmps142
  go_upto_region 3 with fail
  rw [← HW0.out]
  go_wp2_with (go_at_call 156
               with_reducible refine HA.out.mono ?_
               rintro e W5 ⟨rfl, hQ5, hX5, hY5, hO5⟩
               have HQ5 := Lib.hid hQ5
               have HX5 := Lib.hid hX5
               have HY5 := Lib.hid hY5
               have HO5 := Lib.hid hO5
               have s0 : W5.cell? ⟨W.heap.size + 1, 0, none⟩ = some (.int .u8 0) := blk_cell hY5 0
               have s1 : W5.cell? ⟨W.heap.size + 1, 1, none⟩ = some (.int .u8 0) := blk_cell hY5 1
               have s2 : W5.cell? ⟨W.heap.size + 1, 2, none⟩ = some (.int .u64 0) := blk_cell hY5 2
               have f0 : W5.frozen? ⟨W.heap.size + 1, 0, none⟩ = false := blk_frozen hY5 0
               have f1 : W5.frozen? ⟨W.heap.size + 1, 1, none⟩ = false := blk_frozen hY5 1
               have f2 : W5.frozen? ⟨W.heap.size + 1, 2, none⟩ = false := blk_frozen hY5 2
               have p0 : W5.cell? ⟨W.heap.size, 0, none⟩ = some (.int .u8 0) := blk_cell hX5 0
               have p1 : W5.cell? ⟨W.heap.size, 1, none⟩ = some (.int .u8 0) := blk_cell hX5 1
               have p2 : W5.cell? ⟨W.heap.size, 2, none⟩ = some (.int .u64 0) := blk_cell hX5 2
               have pf0 : W5.frozen? ⟨W.heap.size, 0, none⟩ = false := blk_frozen hX5 0
               have pf1 : W5.frozen? ⟨W.heap.size, 1, none⟩ = false := blk_frozen hX5 1
               have pf2 : W5.frozen? ⟨W.heap.size, 2, none⟩ = false := blk_frozen hX5 2
               clear hQ5 hX5 hY5 hO5)
  try simp only [Exit.inBlock, Exit.then]
  have hX6 := blk_set (blk_set (blk_set HX5.out 0 (.int .u8 0)) 1 (.int .u8 0)) 2 (.int .u64 0)
  refine bodyPost_ret (results_ctt (p := 2) (u := 3) (q := 4) rfl _ _ _ _ _ _ _ rfl hX6 Tryz.underlying82 rfl (by kernel_rfl)) rfl ⟨rfl, HKQ.out W5 _ HQ5.out HO5.out.size (fun i hi => ?_), ?_⟩
  · rw [Below.heap_setCell _ ⟨W.heap.size, 2, none⟩ _ i (by show i ≠ W.heap.size; omega), Below.heap_setCell _ ⟨W.heap.size, 1, none⟩ _ i (by show i ≠ W.heap.size; omega), Below.heap_setCell _ ⟨W.heap.size, 0, none⟩ _ i (by show i ≠ W.heap.size; omega)]
  · exact ((HO5.out.setCell (a := ⟨W.heap.size, 0, none⟩) (fun h => absurd h (by simp)) _).setCell (a := ⟨W.heap.size, 1, none⟩) (fun h => absurd h (by simp)) _).setCell (a := ⟨W.heap.size, 2, none⟩) (fun h => absurd h (by simp)) _
end
end Go.Proofs.YteockihoefbmdaaGreatDoor.Ber
namespace Go.Proofs.YteockihoefbmdaaGreatDoor.Ber
open Go.RowKit Go.Proofs.YteockihoefbmdaaGreatDoorW.PrintWords Go.Proofs.YteockihoefbmdaaGreatDoorW.PrintLast Go.Proofs.YteockihoefbmdaaGreatDoor.Buf Go.Proofs.YteockihoefbmdaaGreatDoor.Pk Go.Proofs.YteockihoefbmdaaGreatDoor.Tree
set_option linter.unusedVariables false
set_option linter.unusedSimpArgs false
theorem and_u64 : ∀ n : Fin 256, Go.bits .and .u64 ((n : Nat) : Int) 127 = ((n.val % 128 : Nat) : Int) ∧ Go.bits .and .u64 ((n : Nat) : Int) 128 = if n.val < 128 then 0 else 128 := by decide +kernel
theorem or_u64_7 (u z : Int) (h0 : 0 ≤ u) (h1 : u < 2097152) (z0 : 0 ≤ z) (z1 : z < 128) : Go.bits .or .u64 (u * 128) z = u * 128 + z := by
  obtain ⟨M, rfl⟩ : ∃ M : Nat, u = M := ⟨u.toNat, by omega⟩
  obtain ⟨b, rfl⟩ : ∃ b : Nat, z = b := ⟨z.toNat, by omega⟩
  show IntKind.u64.wrap ((BitVec.ofInt 64 ((M : Int) * 128) ||| BitVec.ofInt 64 (b : Int)).toNat : Int) = _
  rw [BitVec.toNat_or, BitVec.toNat_ofInt, BitVec.toNat_ofInt]
  have e0 : ((2 ^ 64 : Nat) : Int) = 18446744073709551616 := by decide
  rw [e0]
  have e1 : ((M : Int) * 128 % 18446744073709551616).toNat = 2 ^ 7 * M := by omega
  have e2 : ((b : Int) % 18446744073709551616).toNat = b := by omega
  rw [e1, e2]
  have e3 : 2 ^ 7 * M ||| b = 2 ^ 7 * M + b := (Nat.two_pow_add_eq_or_of_lt (show b < 2 ^ 7 by omega) M).symm
  rw [e3]
  show IntKind.u64.wrap _ = _
  rw [IntKind.wrap_u64]
  omega
/-- the tag so far, of j bytes -/
def TagI (j : Nat) (acc : Int) : Prop := (j = 0 ∧ acc = 0) ∨ (1 ≤ j ∧ ((128 ^ (j - 1) : Nat) : Int) ≤ acc)
theorem TagI.nonneg {j : Nat} {acc : Int} (h : TagI j acc) : 0 ≤ acc := by
  rcases h with ⟨_, rfl⟩ | ⟨_, h⟩
  · exact Int.le_refl _
  · exact Int.le_trans (Int.natCast_nonneg _) h
theorem TagI.le {j : Nat} {acc : Int} (h : TagI j acc) (h1 : acc < 2097152) : j ≤ 3 := by
  rcases h with ⟨rfl, _⟩ | ⟨h0, h⟩
  · omega
  · rcases Nat.lt_or_ge 3 j with hj | hj
    · have h2 : 128 ^ 3 ≤ 128 ^ (j - 1) := Nat.pow_le_pow_right (by decide) (by omega)
      have h3 : (128 ^ 3 : Nat) = 2097152 := by decide
      omega
    · exact hj
theorem TagI.step {j : Nat} {acc z : Int} (h : TagI j acc) (hz0 : 0 ≤ z) (hz : ¬ (j = 0 ∧ z = 0)) : TagI (j + 1) (acc * 128 + z) := by
  refine .inr ⟨by omega, ?_⟩
  rw [Nat.add_sub_cancel]
  rcases h with ⟨rfl, rfl⟩ | ⟨h0, h⟩
  · rw [Nat.pow_zero]; omega
  · obtain ⟨i, rfl⟩ : ∃ i, j = i + 1 := ⟨j - 1, by omega⟩
    rw [Nat.add_sub_cancel] at h
    rw [Nat.pow_succ]
    omega
section
variable {T F : Nat} {r : Value} {g B : Nat} {va ua : Addr} {Q : World → List Int → Prop}
set_option maxHeartbeats 3200000 in
set_option maxRecDepth 100000 in
theorem readId_high (R : RdSpec T F r g B va ua Q) (W : World) (b : Int) (l m : List Int) (tag : Int) (k : Nat) (hQ : Q W (b :: l)) (hB : B ≤ W.heap.size) (b0 : 0 ≤ b) (b1 : b < 256) (hs : b % 32 = 31) (ht : tagB (l ++ m) 0 0 = some (tag, k)) (hx : ∀ x ∈ l, 0 ≤ x ∧ x < 256) :
    Calls Tryz.prog 142 #[.iface T r] W fun e w' => (k ≤ l.length → e = .returned (.tuple #[.agg #[.int .u8 (b / 64 * 64), .int .u8 (b / 32 % 2 * 32), .int .u64 tag], .int .i64 ((k + 1 : Nat) : Int), .nilIface]) ∧ Q w' (l.drop k)) ∧
      (l.length < k → (∃ q, e = .returned (.tuple #[.agg #[.int .u8 0, .int .u8 0, .int .u64 0], .int .i64 q, (.iface 248 (.pointer (some ua)))])) ∧ Q w' []) ∧ Only (fun b => b = g) W w' := by
  obtain ⟨W0, hW0⟩ : ∃ W0, W0 = (W.alloc (.cells #[.int .u8 0, .int .u8 0, .int .u64 0] 82)).alloc (.cells #[.int .u8 0, .int .u8 0, .int .u64 0] 82) := ⟨_, rfl⟩
  have hb0 : Below W.heap.size W W0 := by rw [hW0]; exact below_alloc (below_alloc (Below.refl _ _) _) _
  have hX0 : W0.heap[W.heap.size]? = some (.cells #[.int .u8 0, .int .u8 0, .int .u64 0] 82 (0, 0)) := by rw [hW0]; exact blk_alloc (blk_new _ _) _
  have hY0 : W0.heap[W.heap.size + 1]? = some (.cells #[.int .u8 0, .int .u8 0, .int .u64 0] 82 (0, 0)) := by
    have := blk_new (W.alloc (.cells #[.int .u8 0, .int .u8 0, .int .u64 0] 82)) (.cells #[.int .u8 0, .int .u8 0, .int .u64 0] 82)
    have e : (W.alloc (.cells #[.int .u8 0, .int .u8 0, .int .u64 0] 82)).heap.size = W.heap.size + 1 := by simp
    rw [e, ← hW0] at this
    exact this
  have hgs : g < W.heap.size := Nat.lt_of_lt_of_le R.lt hB
  obtain ⟨x1, hx1⟩ : ∃ x1, x1 = b / 64 * 64 := ⟨_, rfl⟩
  obtain ⟨x2, hx2⟩ : ∃ x2, x2 = b / 32 % 2 * 32 := ⟨_, rfl⟩
  have HA : Hid (Calls Tryz.prog 156 #[.iface T r] W0 fun e w' => e = .returned (.tuple #[.int .u8 b, .nilIface]) ∧ Q w' l ∧ w'.heap[W.heap.size]? = some (.cells #[.int .u8 0, .int .u8 0, .int .u64 0] 82 (0, 0)) ∧ w'.heap[W.heap.size + 1]? = some (.cells #[.int .u8 0, .int .u8 0, .int .u64 0] 82 (0, 0)) ∧ Only (fun b => b = g) W w') := Lib.hid (by
    refine (readByte_some R W0 b l (R.keep W W0 _ hQ (fun i hi => hb0.block i (Nat.lt_of_lt_of_le hi hB))) (Nat.le_trans hB hb0.size)).mono ?_
    rintro e w' ⟨he, hq, ho⟩
    exact ⟨he, hq, (ho.block _ (blk_lt hX0) (by omega)).trans hX0, (ho.block _ (blk_lt hY0) (by omega)).trans hY0, (Only.of_below (fun b => b = g) hb0).trans ho (fun i _ h => h)⟩)
  have HRB : Hid (∀ (W' : World) (x acc : Int) (n : List Int), Q W' (x :: n) → Only (fun b => b = g) W W' → W'.heap[W.heap.size]? = some (.cells #[.int .u8 0, .int .u8 0, .int .u64 0] 82 (0, 0)) → W'.heap[W.heap.size + 1]? = some (.cells #[.int .u8 x1, .int .u8 x2, .int .u64 acc] 82 (0, 0)) →
      Calls Tryz.prog 156 #[.iface T r] W' fun e w' => e = .returned (.tuple #[.int .u8 x, .nilIface]) ∧ Q w' n ∧ w'.heap[W.heap.size]? = some (.cells #[.int .u8 0, .int .u8 0, .int .u64 0] 82 (0, 0)) ∧ w'.heap[W.heap.size + 1]? = some (.cells #[.int .u8 x1, .int .u8 x2, .int .u64 acc] 82 (0, 0)) ∧ Only (fun b => b = g) W w') := Lib.hid (fun W' x acc n hq ho hX hY => by
    refine (readByte_some R W' x n hq (Nat.le_trans hB ho.size)).mono ?_
    rintro e w' ⟨he, hq', ho'⟩
    exact ⟨he, hq', (ho'.block _ (blk_lt hX) (by omega)).trans hX, (ho'.block _ (blk_lt hY) (by omega)).trans hY, ho.trans ho' (fun i _ h => h)⟩)
  have HNO : Hid (∀ (W' : World) (acc : Int), Q W' [] → Only (fun b => b = g) W W' → W'.heap[W.heap.size]? = some (.cells #[.int .u8 0, .int .u8 0, .int .u64 0] 82 (0, 0)) → W'.heap[W.heap.size + 1]? = some (.cells #[.int .u8 x1, .int .u8 x2, .int .u64 acc] 82 (0, 0)) →
      Calls Tryz.prog 156 #[.iface T r] W' fun e w' => e = .returned (.tuple #[.int .u8 0, (.iface 248 (.pointer (some va)))]) ∧ Q w' [] ∧ w'.heap[W.heap.size]? = some (.cells #[.int .u8 0, .int .u8 0, .int .u64 0] 82 (0, 0)) ∧ w'.heap[W.heap.size + 1]? = some (.cells #[.int .u8 x1, .int .u8 x2, .int .u64 acc] 82 (0, 0)) ∧ Only (fun b => b = g) W w') := Lib.hid (fun W' acc hq ho hX hY => by
    refine (readByte_none R W' hq (Nat.le_trans hB ho.size)).mono ?_
    rintro e w' ⟨he, hq', ho'⟩
    exact ⟨he, hq', (ho'.block _ (blk_lt hX) (by omega)).trans hX, (ho'.block _ (blk_lt hY) (by omega)).trans hY, ho.trans ho' (fun i _ h => h)⟩)
  have HE : Hid (∀ W', Q W' [] → Calls Tryz.prog 123 #[(.iface 248 (.pointer (some va)))] W' fun e w' => e = .returned (.iface 248 (.pointer (some ua))) ∧ w' = W') := Lib.hid (fun W' h => eof_turn va ua W' (R.eof _ _ h) (R.ueof _ _ h))
  obtain ⟨a1, a2, a3⟩ := bits_id ⟨b.toNat, by omega⟩
  simp only [Int.toNat_of_nonneg b0] at a1 a2 a3
  have e1 : Go.bits .and .u8 b 192 = x1 := by rw [a1, hx1]; omega
  have e2 : Go.bits .and .u8 b 32 = x2 := by rw [a2, hx2]; omega
  have e3 : Go.bits .and .u64 b 31 = 31 := by rw [a3]; omega
  have HKQ : Hid (∀ W5 W' n, Q W5 n → W.heap.size ≤ W5.heap.size → (∀ i, i < W.heap.size → W'.heap[i]? = W5.heap[i]?) → Q W' n) := Lib.hid (fun W5 W' n hq _ h => R.keep W5 W' n hq (fun i hi => h i (Nat.lt_of_lt_of_le hi hB)))
  have HW0 := Lib.hid hW0
  have HX := Lib.hid hx
  have HT := Lib.hid ht
  rw [← hx1, ← hx2]
  clear hQ R hB hb0 hX0 hY0 hW0 a1 a2 a3 hx1 hx2 hs hx ht
  go_enter Tryz.func142, Tryz.ntmps142
  go_upto_region 3 with fail
  rw [← HW0.out]
  go_wp2_with (go_at_call 156
               with_reducible refine HA.out.mono ?_
               rintro e W5 ⟨rfl, hQ5, hX5, hY5, hO5⟩
               have HQ5 := Lib.hid hQ5
               have HX5 := Lib.hid hX5
               have HY5 := Lib.hid hY5
               have HO5 := Lib.hid hO5
               have s0 : W5.cell? ⟨W.heap.size + 1, 0, none⟩ = some (.int .u8 0) := blk_cell hY5 0
               have s1 : W5.cell? ⟨W.heap.size + 1, 1, none⟩ = some (.int .u8 0) := blk_cell hY5 1
               have s2 : W5.cell? ⟨W.heap.size + 1, 2, none⟩ = some (.int .u64 0) := blk_cell hY5 2
               have f0 : W5.frozen? ⟨W.heap.size + 1, 0, none⟩ = false := blk_frozen hY5 0
               have f1 : W5.frozen? ⟨W.heap.size + 1, 1, none⟩ = false := blk_frozen hY5 1
               have f2 : W5.frozen? ⟨W.heap.size + 1, 2, none⟩ = false := blk_frozen hY5 2
               have p0 : W5.cell? ⟨W.heap.size, 0, none⟩ = some (.int .u8 0) := blk_cell hX5 0
               have p1 : W5.cell? ⟨W.heap.size, 1, none⟩ = some (.int .u8 0) := blk_cell hX5 1
               have p2 : W5.cell? ⟨W.heap.size, 2, none⟩ = some (.int .u64 0) := blk_cell hX5 2
               have pf0 : W5.frozen? ⟨W.heap.size, 0, none⟩ = false := blk_frozen hX5 0
               have pf1 : W5.frozen? ⟨W.heap.size, 1, none⟩ = false := blk_frozen hX5 1
               have pf2 : W5.frozen? ⟨W.heap.size, 2, none⟩ = false := blk_frozen hX5 2
               clear hQ5 hX5 hY5 hO5)
  go_loopw [6, 10] (fun rd tb wr => ∃ (j : Nat) (acc q t : Int), rd = .int .i64 q ∧ q = (j : Int) + 1 ∧ tb = .int .i64 t ∧ t = (j : Int) ∧ j ≤ l.length ∧ Hid (tagB (l.drop j ++ m) acc j = some (tag, k) ∧ TagI j acc ∧ Q wr (l.drop j) ∧ wr.heap[W.heap.size]? = some (.cells #[.int .u8 0, .int .u8 0, .int .u64 0] 82 (0, 0)) ∧ wr.heap[W.heap.size + 1]? = some (.cells #[.int .u8 x1, .int .u8 x2, .int .u64 acc] 82 (0, 0)) ∧ Only (fun b => b = g) W wr)) (fun _ tb _ => l.length - (intOf tb).toNat)
  case atStart =>
    refine ⟨0, 0, 1, 0, rfl, rfl, rfl, rfl, Nat.zero_le _, Lib.hid ⟨HT.out, .inl ⟨rfl, rfl⟩, ?_, ?_, ?_, ?_⟩⟩
    · refine HKQ.out W5 _ _ HQ5.out HO5.out.size (fun i hi => ?_)
      rw [Below.heap_setCell _ ⟨W.heap.size + 1, 1, none⟩ _ i (by show i ≠ W.heap.size + 1; omega), Below.heap_setCell _ ⟨W.heap.size + 1, 0, none⟩ _ i (by show i ≠ W.heap.size + 1; omega)]
    · exact blk_far (blk_far HX5.out (p := ⟨W.heap.size + 1, 0, none⟩) (by simp) (.int .u8 x1)) (p := ⟨W.heap.size + 1, 1, none⟩) (by simp) (.int .u8 x2)
    · exact blk_set (blk_set HY5.out 0 (.int .u8 x1)) 1 (.int .u8 x2)
    · exact (HO5.out.setCell (a := ⟨W.heap.size + 1, 0, none⟩) (fun h => absurd h (by simp)) _).setCell (a := ⟨W.heap.size + 1, 1, none⟩) (fun h => absurd h (by simp)) _
  case round =>
    obtain ⟨j, acc, q, t, rfl, hq, rfl, hj, hjl, HP⟩ := hrel
    have HQQ := Lib.hid hq
    have HTJ := Lib.hid hj
    obtain ⟨hT, hI, hQj, hXj, hYj, hOj⟩ := HP.out
    have ha0 := hI.nonneg
    clear hq HQ5 HX5 HY5 HO5 s0 s1 s2 f0 f1 f2 p0 p1 p2 pf0 pf1 pf2
    by_cases hlt : j < l.length
    · rw [List.drop_eq_getElem_cons hlt, List.cons_append, tagB] at hT
      have hxk := HX.out l[j] (List.getElem_mem hlt)
      have HRX := Lib.hid (HRB.out wr l[j] acc (l.drop (j + 1)) (by rwa [List.drop_eq_getElem_cons hlt] at hQj) hOj hXj hYj)
      obtain ⟨z, hz⟩ : ∃ z, z = l[j] := ⟨_, rfl⟩
      rw [← hz] at hT hxk HRX
      by_cases h1 : 2097152 ≤ acc
      · rw [if_pos h1] at hT; cases hT
      by_cases h2 : j = 0 ∧ z % 128 = 0
      · rw [if_neg h1, if_pos h2] at hT; cases hT
      rw [if_neg h1, if_neg h2] at hT
      have hz0 : 0 ≤ z := hxk.1
      have hz1 : z < 256 := hxk.2
      have ha1 : acc < 2097152 := by omega
      have hj3 := hI.le ha1
      obtain ⟨z7, hz7⟩ : ∃ z7, z7 = z % 128 := ⟨_, rfl⟩
      obtain ⟨a2, ha2⟩ : ∃ a2, a2 = acc * 128 + z7 := ⟨_, rfl⟩
      have HI2 : Hid (TagI (j + 1) a2) := Lib.hid (by rw [ha2]; exact hI.step (by omega) (fun h => h2 ⟨h.1, by omega⟩))
      rw [← hz7, ← ha2] at hT
      obtain ⟨c1, c2⟩ := and_u64 ⟨z.toNat, by omega⟩
      simp only [Int.toNat_of_nonneg hz0] at c1 c2
      have w1 : Go.bits .and .u64 z 127 = z7 := by rw [c1, hz7]; omega
      have w2 : Go.bits .or .u64 (acc * 128) z7 = a2 := by rw [or_u64_7 acc z7 ha0 ha1 (by omega) (by omega), ha2]
      have w3 : (a2 == 0) = true → j ≠ 0 := fun h e => h2 ⟨e, by simp at h; omega⟩
      have hb2 : 0 ≤ a2 := by omega
      have ht0 : 0 ≤ t := by omega
      have ht3 : t ≤ 3 := by omega
      have hq0 : 0 ≤ q := by have := HQQ.out; omega
      have hq4 : q ≤ 4 := by have := HQQ.out; omega
      have HJT : Hid (j ≤ 3) := Lib.hid hj3
      have hd9 : decide (9 < t + 1) = false := decide_eq_false (by omega)
      by_cases h3 : z < 128
      · rw [if_pos h3] at hT
        have HTG : Hid (tag = a2) := Lib.hid (by injection hT with h; injection h with h h'; exact h.symm)
        have HKJ : Hid (k = j + 1) := Lib.hid (by injection hT with h; injection h with h h'; exact h'.symm)
        have HK : Hid (k ≤ l.length) := Lib.hid (by rw [HKJ.out]; exact hlt)
        have w4 : Go.bits .and .u64 z 128 = 0 := by rw [c2, if_pos (by omega)]
        by_cases h0 : t = 0
        · subst h0
          have w5 : (a2 == 0) = false := by
            cases e : (a2 == 0) with
            | false => rfl
            | true => exact absurd (by omega) (w3 e)
          clear hT hI hQj hXj hYj hOj hxk c1 c2 hz7 ha2 h1 h2 h3 hj3 hz w3 hj
          go_wp2_with (go_at_call 156
                       with_reducible refine HRX.out.mono ?_
                       rintro e W6 ⟨rfl, hQ6, hX6, hY6, hO6⟩
                       have HQ6 := Lib.hid hQ6
                       have HX6 := Lib.hid hX6
                       have HY6 := Lib.hid hY6
                       have HO6 := Lib.hid hO6
                       have s0 : W6.cell? ⟨W.heap.size + 1, 0, none⟩ = some (.int .u8 x1) := blk_cell hY6 0
                       have s1 : W6.cell? ⟨W.heap.size + 1, 1, none⟩ = some (.int .u8 x2) := blk_cell hY6 1
                       have s2 : W6.cell? ⟨W.heap.size + 1, 2, none⟩ = some (.int .u64 acc) := blk_cell hY6 2
                       have f0 : W6.frozen? ⟨W.heap.size + 1, 0, none⟩ = false := blk_frozen hY6 0
                       have f1 : W6.frozen? ⟨W.heap.size + 1, 1, none⟩ = false := blk_frozen hY6 1
                       have f2 : W6.frozen? ⟨W.heap.size + 1, 2, none⟩ = false := blk_frozen hY6 2
                       have p0 : W6.cell? ⟨W.heap.size, 0, none⟩ = some (.int .u8 0) := blk_cell hX6 0
                       have p1 : W6.cell? ⟨W.heap.size, 1, none⟩ = some (.int .u8 0) := blk_cell hX6 1
                       have p2 : W6.cell? ⟨W.heap.size, 2, none⟩ = some (.int .u64 0) := blk_cell hX6 2
                       have pf0 : W6.frozen? ⟨W.heap.size, 0, none⟩ = false := blk_frozen hX6 0
                       have pf1 : W6.frozen? ⟨W.heap.size, 1, none⟩ = false := blk_frozen hX6 1
                       have pf2 : W6.frozen? ⟨W.heap.size, 2, none⟩ = false := blk_frozen hX6 2
                       clear hQ6 hX6 hY6 hO6)
          try simp only [Exit.inBlock, Exit.then]
          have hY7 := blk_set (blk_set HY6.out 2 (.int .u64 (acc * 128))) 2 (.int .u64 a2)
          have hX7 := blk_set (blk_set (blk_set (blk_far (blk_far HX6.out (p := ⟨W.heap.size + 1, 2, none⟩) (by simp) (.int .u64 (acc * 128))) (p := ⟨W.heap.size + 1, 2, none⟩) (by simp) (.int .u64 a2)) 0 (.int .u8 x1)) 1 (.int .u8 x2)) 2 (.int .u64 a2)
          refine bodyPost_ret (results_ctt (p := 2) (u := 3) (q := 4) rfl _ _ _ _ _ _ _ rfl hX7 Tryz.underlying82 rfl (by kernel_rfl)) rfl ⟨fun _ => ⟨?_, ?_⟩, fun h => absurd h (by have := HK.out; omega), ?_⟩
          · have e : q + 1 = ((j + 1 + 1 : Nat) : Int) := by have := HQQ.out; push_cast; omega
            show Ending.returned (.tuple #[.agg #[.int .u8 x1, .int .u8 x2, .int .u64 a2], .int .i64 (q + 1), .nilIface]) = _
            rw [HTG.out, HKJ.out, e]
          · rw [HKJ.out]
            refine HKQ.out W6 _ _ HQ6.out HO6.out.size (fun i hi => ?_)
            rw [Below.heap_setCell _ ⟨W.heap.size, 2, none⟩ _ i (by show i ≠ W.heap.size; omega), Below.heap_setCell _ ⟨W.heap.size, 1, none⟩ _ i (by show i ≠ W.heap.size; omega), Below.heap_setCell _ ⟨W.heap.size, 0, none⟩ _ i (by show i ≠ W.heap.size; omega),
              Below.heap_setCell _ ⟨W.heap.size + 1, 2, none⟩ _ i (by show i ≠ W.heap.size + 1; omega), Below.heap_setCell _ ⟨W.heap.size + 1, 2, none⟩ _ i (by show i ≠ W.heap.size + 1; omega)]
          · exact ((((HO6.out.setCell (a := ⟨W.heap.size + 1, 2, none⟩) (fun h => absurd h (by simp)) _).setCell (a := ⟨W.heap.size + 1, 2, none⟩) (fun h => absurd h (by simp)) _).setCell (a := ⟨W.heap.size, 0, none⟩) (fun h => absurd h (by simp)) _).setCell (a := ⟨W.heap.size, 1, none⟩) (fun h => absurd h (by simp)) _).setCell (a := ⟨W.heap.size, 2, none⟩) (fun h => absurd h (by simp)) _
        · have w5 : (t + 1 == 1) = false := by simp; omega
          clear hT hI hQj hXj hYj hOj hxk c1 c2 hz7 ha2 h1 h2 h3 hj3 hz w3 hj
          go_wp2_with (go_at_call 156
                       with_reducible refine HRX.out.mono ?_
                       rintro e W6 ⟨rfl, hQ6, hX6, hY6, hO6⟩
                       have HQ6 := Lib.hid hQ6
                       have HX6 := Lib.hid hX6
                       have HY6 := Lib.hid hY6
                       have HO6 := Lib.hid hO6
                       have s0 : W6.cell? ⟨W.heap.size + 1, 0, none⟩ = some (.int .u8 x1) := blk_cell hY6 0
                       have s1 : W6.cell? ⟨W.heap.size + 1, 1, none⟩ = some (.int .u8 x2) := blk_cell hY6 1
                       have s2 : W6.cell? ⟨W.heap.size + 1, 2, none⟩ = some (.int .u64 acc) := blk_cell hY6 2
                       have f0 : W6.frozen? ⟨W.heap.size + 1, 0, none⟩ = false := blk_frozen hY6 0
                       have f1 : W6.frozen? ⟨W.heap.size + 1, 1, none⟩ = false := blk_frozen hY6 1
                       have f2 : W6.frozen? ⟨W.heap.size + 1, 2, none⟩ = false := blk_frozen hY6 2
                       have p0 : W6.cell? ⟨W.heap.size, 0, none⟩ = some (.int .u8 0) := blk_cell hX6 0
                       have p1 : W6.cell? ⟨W.heap.size, 1, none⟩ = some (.int .u8 0) := blk_cell hX6 1
                       have p2 : W6.cell? ⟨W.heap.size, 2, none⟩ = some (.int .u64 0) := blk_cell hX6 2
                       have pf0 : W6.frozen? ⟨W.heap.size, 0, none⟩ = false := blk_frozen hX6 0
                       have pf1 : W6.frozen? ⟨W.heap.size, 1, none⟩ = false := blk_frozen hX6 1
                       have pf2 : W6.frozen? ⟨W.heap.size, 2, none⟩ = false := blk_frozen hX6 2
                       clear hQ6 hX6 hY6 hO6)
          try simp only [Exit.inBlock, Exit.then]
          have hY7 := blk_set (blk_set HY6.out 2 (.int .u64 (acc * 128))) 2 (.int .u64 a2)
          have hX7 := blk_set (blk_set (blk_set (blk_far (blk_far HX6.out (p := ⟨W.heap.size + 1, 2, none⟩) (by simp) (.int .u64 (acc * 128))) (p := ⟨W.heap.size + 1, 2, none⟩) (by simp) (.int .u64 a2)) 0 (.int .u8 x1)) 1 (.int .u8 x2)) 2 (.int .u64 a2)
          refine bodyPost_ret (results_ctt (p := 2) (u := 3) (q := 4) rfl _ _ _ _ _ _ _ rfl hX7 Tryz.underlying82 rfl (by kernel_rfl)) rfl ⟨fun _ => ⟨?_, ?_⟩, fun h => absurd h (by have := HK.out; omega), ?_⟩
          · have e : q + 1 = ((j + 1 + 1 : Nat) : Int) := by have := HQQ.out; push_cast; omega
            show Ending.returned (.tuple #[.agg #[.int .u8 x1, .int .u8 x2, .int .u64 a2], .int .i64 (q + 1), .nilIface]) = _
            rw [HTG.out, HKJ.out, e]
          · rw [HKJ.out]
            refine HKQ.out W6 _ _ HQ6.out HO6.out.size (fun i hi => ?_)
            rw [Below.heap_setCell _ ⟨W.heap.size, 2, none⟩ _ i (by show i ≠ W.heap.size; omega), Below.heap_setCell _ ⟨W.heap.size, 1, none⟩ _ i (by show i ≠ W.heap.size; omega), Below.heap_setCell _ ⟨W.heap.size, 0, none⟩ _ i (by show i ≠ W.heap.size; omega),
              Below.heap_setCell _ ⟨W.heap.size + 1, 2, none⟩ _ i (by show i ≠ W.heap.size + 1; omega), Below.heap_setCell _ ⟨W.heap.size + 1, 2, none⟩ _ i (by show i ≠ W.heap.size + 1; omega)]
          · exact ((((HO6.out.setCell (a := ⟨W.heap.size + 1, 2, none⟩) (fun h => absurd h (by simp)) _).setCell (a := ⟨W.heap.size + 1, 2, none⟩) (fun h => absurd h (by simp)) _).setCell (a := ⟨W.heap.size, 0, none⟩) (fun h => absurd h (by simp)) _).setCell (a := ⟨W.heap.size, 1, none⟩) (fun h => absurd h (by simp)) _).setCell (a := ⟨W.heap.size, 2, none⟩) (fun h => absurd h (by simp)) _
      · rw [if_neg h3] at hT
        have HT2 := Lib.hid hT
        have w4 : Go.bits .and .u64 z 128 = 128 := by rw [c2, if_neg (by omega)]
        by_cases h0 : t = 0
        · subst h0
          have w5 : (a2 == 0) = false := by
            cases e : (a2 == 0) with
            | false => rfl
            | true => exact absurd (by omega) (w3 e)
          clear hT hI hQj hXj hYj hOj hxk c1 c2 hz7 ha2 h1 h2 h3 hj3 hz w3 hj
          go_wp2_with (go_at_call 156
                       with_reducible refine HRX.out.mono ?_
                       rintro e W6 ⟨rfl, hQ6, hX6, hY6, hO6⟩
                       have HQ6 := Lib.hid hQ6
                       have HX6 := Lib.hid hX6
                       have HY6 := Lib.hid hY6
                       have HO6 := Lib.hid hO6
                       have s0 : W6.cell? ⟨W.heap.size + 1, 0, none⟩ = some (.int .u8 x1) := blk_cell hY6 0
                       have s1 : W6.cell? ⟨W.heap.size + 1, 1, none⟩ = some (.int .u8 x2) := blk_cell hY6 1
                       have s2 : W6.cell? ⟨W.heap.size + 1, 2, none⟩ = some (.int .u64 acc) := blk_cell hY6 2
                       have f0 : W6.frozen? ⟨W.heap.size + 1, 0, none⟩ = false := blk_frozen hY6 0
                       have f1 : W6.frozen? ⟨W.heap.size + 1, 1, none⟩ = false := blk_frozen hY6 1
                       have f2 : W6.frozen? ⟨W.heap.size + 1, 2, none⟩ = false := blk_frozen hY6 2
                       have p0 : W6.cell? ⟨W.heap.size, 0, none⟩ = some (.int .u8 0) := blk_cell hX6 0
                       have p1 : W6.cell? ⟨W.heap.size, 1, none⟩ = some (.int .u8 0) := blk_cell hX6 1
                       have p2 : W6.cell? ⟨W.heap.size, 2, none⟩ = some (.int .u64 0) := blk_cell hX6 2
                       have pf0 : W6.frozen? ⟨W.heap.size, 0, none⟩ = false := blk_frozen hX6 0
                       have pf1 : W6.frozen? ⟨W.heap.size, 1, none⟩ = false := blk_frozen hX6 1
                       have pf2 : W6.frozen? ⟨W.heap.size, 2, none⟩ = false := blk_frozen hX6 2
                       clear hQ6 hX6 hY6 hO6)
          refine ⟨⟨j + 1, a2, q + 1, 1, ?_, ?_, ?_, ?_, ?_, Lib.hid ⟨HT2.out, HI2.out, ?_, ?_, ?_, ?_⟩⟩, ?_⟩
          · first | rfl | go_num
          · have := HQQ.out; push_cast; omega
          · first | rfl | go_num
          · have := HTJ.out; push_cast; omega
          · exact hlt
          · refine HKQ.out W6 _ _ HQ6.out HO6.out.size (fun i hi => ?_)
            rw [Below.heap_setCell _ ⟨W.heap.size + 1, 2, none⟩ _ i (by show i ≠ W.heap.size + 1; omega), Below.heap_setCell _ ⟨W.heap.size + 1, 2, none⟩ _ i (by show i ≠ W.heap.size + 1; omega)]
          · exact blk_far (blk_far HX6.out (p := ⟨W.heap.size + 1, 2, none⟩) (by simp) (.int .u64 (acc * 128))) (p := ⟨W.heap.size + 1, 2, none⟩) (by simp) (.int .u64 a2)
          · exact blk_set (blk_set HY6.out 2 (.int .u64 (acc * 128))) 2 (.int .u64 a2)
          · exact (HO6.out.setCell (a := ⟨W.heap.size + 1, 2, none⟩) (fun h => absurd h (by simp)) _).setCell (a := ⟨W.heap.size + 1, 2, none⟩) (fun h => absurd h (by simp)) _
          · have e : wrap64 (1) = ((j + 1 : Nat) : Int) := by have := HTJ.out; unfold wrap64; omega
            have := HTJ.out
            simp [intOf]
            omega
        · have w5 : (t + 1 == 1) = false := by simp; omega
          clear hT hI hQj hXj hYj hOj hxk c1 c2 hz7 ha2 h1 h2 h3 hj3 hz w3 hj
          go_wp2_with (go_at_call 156
                       with_reducible refine HRX.out.mono ?_
                       rintro e W6 ⟨rfl, hQ6, hX6, hY6, hO6⟩
                       have HQ6 := Lib.hid hQ6
                       have HX6 := Lib.hid hX6
                       have HY6 := Lib.hid hY6
                       have HO6 := Lib.hid hO6
                       have s0 : W6.cell? ⟨W.heap.size + 1, 0, none⟩ = some (.int .u8 x1) := blk_cell hY6 0
                       have s1 : W6.cell? ⟨W.heap.size + 1, 1, none⟩ = some (.int .u8 x2) := blk_cell hY6 1
                       have s2 : W6.cell? ⟨W.heap.size + 1, 2, none⟩ = some (.int .u64 acc) := blk_cell hY6 2
                       have f0 : W6.frozen? ⟨W.heap.size + 1, 0, none⟩ = false := blk_frozen hY6 0
                       have f1 : W6.frozen? ⟨W.heap.size + 1, 1, none⟩ = false := blk_frozen hY6 1
                       have f2 : W6.frozen? ⟨W.heap.size + 1, 2, none⟩ = false := blk_frozen hY6 2
                       have p0 : W6.cell? ⟨W.heap.size, 0, none⟩ = some (.int .u8 0) := blk_cell hX6 0
                       have p1 : W6.cell? ⟨W.heap.size, 1, none⟩ = some (.int .u8 0) := blk_cell hX6 1
                       have p2 : W6.cell? ⟨W.heap.size, 2, none⟩ = some (.int .u64 0) := blk_cell hX6 2
                       have pf0 : W6.frozen? ⟨W.heap.size, 0, none⟩ = false := blk_frozen hX6 0
                       have pf1 : W6.frozen? ⟨W.heap.size, 1, none⟩ = false := blk_frozen hX6 1
                       have pf2 : W6.frozen? ⟨W.heap.size, 2, none⟩ = false := blk_frozen hX6 2
                       clear hQ6 hX6 hY6 hO6)
          refine ⟨⟨j + 1, a2, q + 1, t + 1, ?_, ?_, ?_, ?_, ?_, Lib.hid ⟨HT2.out, HI2.out, ?_, ?_, ?_, ?_⟩⟩, ?_⟩
          · first | rfl | go_num
          · have := HQQ.out; push_cast; omega
          · first | rfl | go_num
          · have := HTJ.out; push_cast; omega
          · exact hlt
          · refine HKQ.out W6 _ _ HQ6.out HO6.out.size (fun i hi => ?_)
            rw [Below.heap_setCell _ ⟨W.heap.size + 1, 2, none⟩ _ i (by show i ≠ W.heap.size + 1; omega), Below.heap_setCell _ ⟨W.heap.size + 1, 2, none⟩ _ i (by show i ≠ W.heap.size + 1; omega)]
          · exact blk_far (blk_far HX6.out (p := ⟨W.heap.size + 1, 2, none⟩) (by simp) (.int .u64 (acc * 128))) (p := ⟨W.heap.size + 1, 2, none⟩) (by simp) (.int .u64 a2)
          · exact blk_set (blk_set HY6.out 2 (.int .u64 (acc * 128))) 2 (.int .u64 a2)
          · exact (HO6.out.setCell (a := ⟨W.heap.size + 1, 2, none⟩) (fun h => absurd h (by simp)) _).setCell (a := ⟨W.heap.size + 1, 2, none⟩) (fun h => absurd h (by simp)) _
          · have e : wrap64 (t + 1) = ((j + 1 : Nat) : Int) := by have := HTJ.out; unfold wrap64; omega
            have := HTJ.out
            simp [intOf]
            omega
    · obtain rfl : j = l.length := by omega
      have HKG : Hid (l.length < k) := Lib.hid (by
        rw [List.drop_length, List.nil_append] at hT
        have h := (tagB_app [] hT).2.1
        simpa using h)
      have HNX := Lib.hid (HNO.out wr acc (by rwa [List.drop_length] at hQj) hOj hXj hYj)
      clear hT hI hQj hXj hYj hOj hj
      go_wp2_with (first
        | (go_at_call 156
           with_reducible refine HNX.out.mono ?_
           rintro e W6 ⟨rfl, hQ6, hX6, hY6, hO6⟩
           have HQ6 := Lib.hid hQ6
           have HX6 := Lib.hid hX6
           have HO6 := Lib.hid hO6
           have s0 : W6.cell? ⟨W.heap.size + 1, 0, none⟩ = some (.int .u8 x1) := blk_cell hY6 0
           have s1 : W6.cell? ⟨W.heap.size + 1, 1, none⟩ = some (.int .u8 x2) := blk_cell hY6 1
           have s2 : W6.cell? ⟨W.heap.size + 1, 2, none⟩ = some (.int .u64 acc) := blk_cell hY6 2
           have f0 : W6.frozen? ⟨W.heap.size + 1, 0, none⟩ = false := blk_frozen hY6 0
           have f1 : W6.frozen? ⟨W.heap.size + 1, 1, none⟩ = false := blk_frozen hY6 1
           have f2 : W6.frozen? ⟨W.heap.size + 1, 2, none⟩ = false := blk_frozen hY6 2
           have p0 : W6.cell? ⟨W.heap.size, 0, none⟩ = some (.int .u8 0) := blk_cell hX6 0
           have p1 : W6.cell? ⟨W.heap.size, 1, none⟩ = some (.int .u8 0) := blk_cell hX6 1
           have p2 : W6.cell? ⟨W.heap.size, 2, none⟩ = some (.int .u64 0) := blk_cell hX6 2
           have pf0 : W6.frozen? ⟨W.heap.size, 0, none⟩ = false := blk_frozen hX6 0
           have pf1 : W6.frozen? ⟨W.heap.size, 1, none⟩ = false := blk_frozen hX6 1
           have pf2 : W6.frozen? ⟨W.heap.size, 2, none⟩ = false := blk_frozen hX6 2
           clear hQ6 hX6 hY6 hO6)
        | (go_at_call 123
           with_reducible refine (HE.out W6 HQ6.out).mono ?_
           rintro e W7 ⟨rfl, rfl⟩))
      try simp only [Exit.inBlock, Exit.then]
      have hX7 := blk_set (blk_set (blk_set HX6.out 0 (.int .u8 0)) 1 (.int .u8 0)) 2 (.int .u64 0)
      refine bodyPost_ret (results_ctt (p := 2) (u := 3) (q := 4) rfl _ _ _ _ _ _ _ rfl hX7 Tryz.underlying82 rfl (by kernel_rfl)) rfl ⟨fun h => absurd h (by have := HKG.out; omega), fun _ => ⟨⟨q, rfl⟩, ?_⟩, ?_⟩
      · refine HKQ.out W7 _ _ HQ6.out HO6.out.size (fun i hi => ?_)
        rw [Below.heap_setCell _ ⟨W.heap.size, 2, none⟩ _ i (by show i ≠ W.heap.size; omega), Below.heap_setCell _ ⟨W.heap.size, 1, none⟩ _ i (by show i ≠ W.heap.size; omega), Below.heap_setCell _ ⟨W.heap.size, 0, none⟩ _ i (by show i ≠ W.heap.size; omega)]
      · exact ((HO6.out.setCell (a := ⟨W.heap.size, 0, none⟩) (fun h => absurd h (by simp)) _).setCell (a := ⟨W.heap.size, 1, none⟩) (fun h => absurd h (by simp)) _).setCell (a := ⟨W.heap.size, 2, none⟩) (fun h => absurd h (by simp)) _
end
end Go.Proofs.YteockihoefbmdaaGreatDoor.Ber
