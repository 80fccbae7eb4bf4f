/- Parts of the proof of one law, in the order in which they build. Plain maths: the reference's Read ends; what it reads are the bytes of a packet. · laws.FnDecodeAny answers true at every argument, where spec.Read keeps its contract. -/
import Derived.Test.YtejbpbdlolehnaaDoorAny1
import Derived.Test.YtejbpbdlolehnaaDoorAny2
import Derived.Test.YtejbpbdlolehnaaDoorAny3
import Derived.Test.YtejbpbdlolehnaaDoorAny4
import Derived.Test.YtejbpbdlolehnaaDoorAny5
import Derived.Test.YtejbpbdlolehnaaDoorAny6
import Derived.Test.YtejbpbdlolehnaaDoorAny7
import Derived.Test.YtejbpbdlolehnaaDoorAny8
import Derived.Test.YtejbpbdlolehnaaDoorAny9
import Derived.Test.YtejbpbdlolehnaaDoorAny10
import Derived.Test.YtejbpbdlolehnaaDoorAny11
import Derived.Test.YtejbpbdlolehnaaDoorAny12
import Derived.Test.YtejbpbdlolehnaaDoorAny13
import Derived.Test.YtejbpbdlolehnaaDoorAny0
namespace Go.Proofs.YtejbpbdlolehnaaDoor.Ber
open Go.RowKit Go.Proofs.YtejbpbdlolehnaaDoorW.PrintWords Go.Proofs.YtejbpbdlolehnaaDoor.PFnEncode Go.Proofs.YtejbpbdlolehnaaDoor.Tree
set_option linter.unusedVariables false
set_option linter.unusedSimpArgs false
abbrev RdR := Int × Int × Bool × List Int × List S29 × Int × Bool
/-- what is read behind the header -/
def J6 (x0 : List Int) (pos n : Nat) (cls tag : Int) (c : Bool) (r : RdR) : Prop :=
  r.2.2.2.2.2.2 = true → pos + n ≤ x0.length ∧ ∃ d ks, r = (cls, tag, c, d, ks, ((pos + n : Nat) : Int), true) ∧ ((c = false ∧ d = (x0.drop pos).take n ∧ ks = []) ∨ (c = true ∧ d = [] ∧ ParL ((x0.drop pos).take n) ks))
/-- what Read gives -/
def RF (x0 : List Int) (r : RdR) : Prop := r.2.2.2.2.2.2 = true → ∃ n : Nat, r.2.2.2.2.2.1 = n ∧ Par x0 ⟨r.1, r.2.1, r.2.2.1, r.2.2.2.1, r.2.2.2.2.1⟩ n
def BadR : RdR := (0, 0, false, [], [], 0, false)
theorem w64 {x : Int} (h0 : -9223372036854775808 ≤ x) (h1 : x ≤ 9223372036854775807) : wrap64 x = x := by unfold wrap64; omega
theorem and8s : ∀ n : Fin 256, Go.bits .and .u8 ((n : Nat) : Int) 31 = ((n.val % 32 : Nat) : Int) ∧ Go.bits .and .u8 ((n : Nat) : Int) 127 = ((n.val % 128 : Nat) : Int) ∧ Go.bits .and .u8 ((n : Nat) : Int) 128 = (if n.val < 128 then 0 else 128) ∧ Go.bits .and .u8 ((n : Nat) : Int) 32 = ((n.val / 32 % 2 * 32 : Nat) : Int) ∧ Go.bits .and .i64 ((n : Nat) : Int) 127 = ((n.val % 128 : Nat) : Int) := by decide +kernel
theorem and_b {b : Int} (h0 : 0 ≤ b) (h1 : b < 256) : Go.bits .and .u8 b 31 = b % 32 ∧ Go.bits .and .u8 b 127 = b % 128 ∧ Go.bits .and .u8 b 128 = (if b < 128 then 0 else 128) ∧ Go.bits .and .u8 b 32 = b / 32 % 2 * 32 ∧ Go.bits .and .i64 b 127 = b % 128 := by
  obtain ⟨a1, a2, a3, a4, a5⟩ := and8s ⟨b.toNat, by omega⟩
  simp only [Int.toNat_of_nonneg h0] at a1 a2 a3 a4 a5
  refine ⟨by rw [a1]; omega, by rw [a2]; omega, ?_, by rw [a4]; omega, by rw [a5]; omega⟩
  rw [a3]
  by_cases h : b < 128
  · rw [if_pos h, if_pos (by omega)]
  · rw [if_neg h, if_neg (by omega)]
theorem or_i64_n (m : Nat) (hm : m = 7 ∨ m = 8) (u z : Int) (h0 : 0 ≤ u) (h1 : u < 4294967296) (z0 : 0 ≤ z) (z1 : z < 2 ^ m) : Go.bits .or .i64 (u * 2 ^ m) z = u * 2 ^ m + z := by
  obtain ⟨M, rfl⟩ : ∃ M : Nat, u = M := ⟨u.toNat, by omega⟩
  obtain ⟨b, rfl⟩ : ∃ b : Nat, z = b := ⟨z.toNat, by omega⟩
  show IntKind.i64.wrap ((BitVec.ofInt 64 ((M : Int) * 2 ^ m) ||| BitVec.ofInt 64 (b : Int)).toNat : Int) = _
  rw [BitVec.toNat_or, BitVec.toNat_ofInt, BitVec.toNat_ofInt]
  have e0 : ((2 ^ 64 : Nat) : Int) = 18446744073709551616 := by decide
  rw [e0]
  have e1 : ((M : Int) * 2 ^ m % 18446744073709551616).toNat = 2 ^ m * M := by rcases hm with rfl | rfl <;> omega
  have e2 : ((b : Int) % 18446744073709551616).toNat = b := by rcases hm with rfl | rfl <;> omega
  have hb : b < 2 ^ m := by rcases hm with rfl | rfl <;> omega
  rw [e1, e2, (Nat.two_pow_add_eq_or_of_lt hb M).symm]
  show IntKind.i64.wrap _ = _
  rw [IntKind.wrap_i64]
  rcases hm with rfl | rfl <;> omega
theorem rd_get {l : List Int} {i : Nat} (h : i < l.length) : rd l (i : Int) = l[i] := by simp [rd, List.getD_eq_getElem?_getD, List.getElem?_eq_getElem h]
theorem l2_law (x6 cls tag : Int) (c : Bool) : ∀ (N : Nat) (body : List Int) (acc : List S29), body.length ≤ N → acc.length + body.length ≤ 1000000 → (∀ b2 : List Int, b2.length ≤ N → (∀ y ∈ b2, 0 ≤ y ∧ y < 256) → ∃ k r, spec_Read.f k b2 = some r ∧ RF b2 r) → (∀ y ∈ body, 0 ≤ y ∧ y < 256) →
    ∃ k r, spec_Read.l2 k x6 body cls tag c acc = some r ∧ (r.2.2.2.2.2.2 = true → ∃ ks, r = (cls, tag, c, [], acc ++ ks, x6, true) ∧ ParL body ks) := by
  intro N
  induction N with
  | zero =>
    intro body acc hl ha _ hb
    have : body = [] := List.eq_nil_of_length_eq_zero (by omega)
    subst this
    exact ⟨1, (cls, tag, c, [], acc, x6, true), by rw [spec_Read.l2]; simp, fun _ => ⟨[], by simp, .nil⟩⟩
  | succ N ih =>
    intro body acc hl ha hf hb
    rcases Nat.eq_zero_or_pos body.length with h0 | h0
    · have : body = [] := List.eq_nil_of_length_eq_zero h0
      subst this
      exact ⟨1, (cls, tag, c, [], acc, x6, true), by rw [spec_Read.l2]; simp, fun _ => ⟨[], by simp, .nil⟩⟩
    · obtain ⟨k1, r1, e1, g1⟩ := hf body hl hb
      cases hok : r1.2.2.2.2.2.2 with
      | false =>
        refine ⟨k1 + 1, BadR, ?_, fun h => by cases h⟩
        rw [spec_Read.l2, if_pos (by omega), e1, Option.bind_some, hok, if_neg Bool.false_ne_true]
        rfl
      | true =>
        obtain ⟨n, hn, hP⟩ := g1 hok
        have hnl := hP.len
        obtain ⟨k2, r2, e2, g2⟩ := ih (body.drop n) (acc ++ [⟨r1.1, r1.2.1, r1.2.2.1, r1.2.2.2.1, r1.2.2.2.2.1⟩]) (by rw [List.length_drop]; omega) (by rw [List.length_drop, List.length_append, List.length_singleton]; omega) (fun b2 h2 h3 => hf b2 (by omega) h3) (fun y hy => hb y (List.mem_of_mem_drop hy))
        have e1' := at_rounds (fun k => spec_Read.mono body k) (Nat.le_max_left k1 k2) e1
        have e2' := at_rounds (fun k => (spec_Read.mono_l k).2.2.2.1 x6 (body.drop n) cls tag c (acc ++ [⟨r1.1, r1.2.1, r1.2.2.1, r1.2.2.2.1, r1.2.2.2.2.1⟩])) (Nat.le_max_right k1 k2) e2
        refine ⟨max k1 k2 + 1, r2, ?_, fun h => ?_⟩
        · rw [spec_Read.l2, if_pos (by omega), e1', Option.bind_some, hok, if_pos rfl, if_pos (by omega), hn, if_pos (by omega), if_pos (by omega), Int.toNat_natCast]
          exact e2'
        · obtain ⟨ks, hr, hp⟩ := g2 h
          exact ⟨⟨r1.1, r1.2.1, r1.2.2.1, r1.2.2.2.1, r1.2.2.2.2.1⟩ :: ks, by rw [hr, List.append_assoc]; rfl, .cons hP hp⟩
theorem j6_law (x0 : List Int) (hx : ∀ y ∈ x0, 0 ≤ y ∧ y < 256) (hl : x0.length ≤ 1000000) (ih : ∀ b2 : List Int, b2.length < x0.length → (∀ y ∈ b2, 0 ≤ y ∧ y < 256) → ∃ k r, spec_Read.f k b2 = some r ∧ RF b2 r) (cls tag : Int) (c : Bool) (pos n : Nat) (hp1 : 1 ≤ pos) (hp : pos ≤ x0.length) (hn : n < 4294967296) :
    ∃ k r, spec_Read.j6 k x0 (pos : Int) (n : Int) cls tag c = some r ∧ J6 x0 pos n cls tag c r := by
  have e1 : wrap64 ((x0.length : Int) - (pos : Int)) = (x0.length : Int) - (pos : Int) := w64 (by omega) (by omega)
  by_cases h1 : (n : Int) > (x0.length : Int) - (pos : Int)
  · exact ⟨1, BadR, by rw [spec_Read.j6, e1, if_pos h1]; rfl, fun h => by cases h⟩
  have e2 : wrap64 ((pos : Int) + (n : Int)) = ((pos + n : Nat) : Int) := by rw [w64 (by omega) (by omega)]; push_cast; rfl
  have e3 : (x0.take (pos + n)).drop pos = (x0.drop pos).take n := by rw [List.drop_take, Nat.add_sub_cancel_left]
  have hlen : ((x0.drop pos).take n).length = n := by rw [List.length_take, List.length_drop]; omega
  cases c with
  | false =>
    refine ⟨1, (cls, tag, false, (x0.drop pos).take n, [], ((pos + n : Nat) : Int), true), ?_, fun _ => ⟨by omega, _, _, rfl, .inl ⟨rfl, rfl, rfl⟩⟩⟩
    rw [spec_Read.j6, e1, if_neg h1, e2, if_pos (by omega), if_pos (by omega), if_pos (by omega), Option.bind_some, if_neg Bool.false_ne_true, Option.bind_some, Int.toNat_natCast, Int.toNat_natCast, e3, hlen, if_pos (by simp; omega), List.nil_append]
  | true =>
    obtain ⟨k, r, e, g⟩ := l2_law ((pos + n : Nat) : Int) cls tag true n ((x0.drop pos).take n) [] (by omega) (by simp only [List.length_nil]; omega) (fun b2 h2 h3 => ih b2 (by omega) h3) (fun y hy => hx y (List.mem_of_mem_drop (List.mem_of_mem_take hy)))
    refine ⟨k + 1, r, ?_, fun h => ?_⟩
    · rw [spec_Read.j6, e1, if_neg h1, e2, if_pos (by omega), if_pos (by omega), if_pos (by omega), Option.bind_some, if_pos rfl, Int.toNat_natCast, Int.toNat_natCast, e3]
      exact e
    · obtain ⟨ks, hr, hp⟩ := g h
      exact ⟨by omega, [], ks, by rw [hr, List.nil_append], .inr ⟨rfl, rfl, hp⟩⟩
theorem l1_law (x0 : List Int) (cls tag : Int) (c : Bool) (bs : List Int) (hb : ∀ y ∈ bs, 0 ≤ y ∧ y < 256) (h4 : bs.length ≤ 4) (pos : Nat) (hpos : pos + bs.length ≤ 1000000) (G : RdR → Prop) (hj : ∃ k r, spec_Read.j6 k x0 ((pos + bs.length : Nat) : Int) (beN bs) cls tag c = some r ∧ G r) :
    ∀ (d i : Nat), i + d = bs.length → ∃ k r, spec_Read.l1 k x0 (pos : Int) (beN (bs.take i)) (bs.length : Int) bs (bs.length : Int) (i : Int) cls tag c = some r ∧ G r := by
  intro d
  induction d with
  | zero =>
    intro i hi
    obtain ⟨k, r, e, g⟩ := hj
    have hi' : i = bs.length := by omega
    subst hi'
    have e2 : wrap64 ((pos : Int) + (bs.length : Int)) = ((pos + bs.length : Nat) : Int) := by rw [w64 (by omega) (by omega)]; push_cast; rfl
    exact ⟨k + 1, r, by rw [spec_Read.l1, if_neg (by omega), e2, List.take_length]; exact e, g⟩
  | succ d ihd =>
    intro i hi
    obtain ⟨k, r, e, g⟩ := ihd (i + 1) (by omega)
    have hlt : i < bs.length := by omega
    have hbi := hb bs[i] (List.getElem_mem hlt)
    have hu := beN_take_lt bs hb i (by omega)
    have h7 : 256 ^ i ≤ 256 ^ 3 := Nat.pow_le_pow_right (by decide) (by omega)
    have h8 : (256 ^ 3 : Nat) = 16777216 := by decide
    have e1 : Go.bits .or .i64 (wrap64 (beN (bs.take i) * 256)) (wrap64 (rd bs (i : Int))) = beN (bs.take (i + 1)) := by
      rw [rd_get hlt, w64 (x := bs[i]) (by omega) (by omega), w64 (by omega) (by omega)]
      have := or_i64_n 8 (.inr rfl) (beN (bs.take i)) bs[i] hu.1 (by omega) hbi.1 (by omega)
      rw [show ((2 : Int) ^ 8) = 256 by decide] at this
      rw [this, List.take_succ_eq_append_getElem hlt, beN_snoc]
    have e2 : wrap64 ((i : Int) + 1) = ((i + 1 : Nat) : Int) := by rw [w64 (by omega) (by omega)]; push_cast; rfl
    exact ⟨k + 1, r, by rw [spec_Read.l1, if_pos (by omega), if_pos (by omega), if_pos (by omega), e1, e2]; exact e, g⟩
theorem j3_law (x0 : List Int) (hx : ∀ y ∈ x0, 0 ≤ y ∧ y < 256) (hl : x0.length ≤ 1000000) (ih : ∀ b2 : List Int, b2.length < x0.length → (∀ y ∈ b2, 0 ≤ y ∧ y < 256) → ∃ k r, spec_Read.f k b2 = some r ∧ RF b2 r) (cls tag : Int) (c : Bool) (at_ : Nat) (h1 : 1 ≤ at_) (hle : at_ ≤ x0.length) :
    ∃ k r, spec_Read.j3 k x0 (at_ : Int) cls tag c = some r ∧ (r.2.2.2.2.2.2 = true → ∃ n m : Nat, lenB (x0.drop at_) = some ((n : Int), m) ∧ J6 x0 (at_ + m) n cls tag c r) := by
  by_cases h0 : (at_ : Int) ≥ (x0.length : Int)
  · exact ⟨1, BadR, by rw [spec_Read.j3, if_pos h0]; rfl, fun h => by cases h⟩
  have hlt : at_ < x0.length := by omega
  have hb := hx x0[at_] (List.getElem_mem hlt)
  have hd : x0.drop at_ = x0[at_] :: x0.drop (at_ + 1) := List.drop_eq_getElem_cons hlt
  have er := rd_get hlt
  obtain ⟨b, hbe⟩ : ∃ b, b = x0[at_] := ⟨_, rfl⟩
  rw [← hbe] at hb hd er
  have ew : wrap64 b = b := w64 (by omega) (by omega)
  have ep : wrap64 ((at_ : Int) + 1) = ((at_ + 1 : Nat) : Int) := by rw [w64 (by omega) (by omega)]; push_cast; rfl
  have ea := (and_b hb.1 hb.2).2.2.2.2
  by_cases h128 : b ≥ 128
  · have base : ∀ k r, (if b % 128 = 0 then spec_Read.j4 k x0 ((at_ + 1 : Nat) : Int) (b % 128) true cls tag c else if b % 128 > 4 then spec_Read.j4 k x0 ((at_ + 1 : Nat) : Int) (b % 128) true cls tag c else spec_Read.j4 k x0 ((at_ + 1 : Nat) : Int) (b % 128) (decide (wrap64 (((at_ + 1 : Nat) : Int) + b % 128) > (x0.length : Int))) cls tag c) = some r → spec_Read.j3 (k + 1) x0 (at_ : Int) cls tag c = some r := fun k r h => by
      rw [spec_Read.j3, if_neg h0, if_pos (by omega), if_pos (by omega), er, ew, if_pos h128, ep, ea]
      exact h
    have bad : spec_Read.j4 1 x0 ((at_ + 1 : Nat) : Int) (b % 128) true cls tag c = some BadR := by rw [spec_Read.j4, if_pos rfl]; rfl
    by_cases hz : b % 128 = 0
    · exact ⟨2, BadR, base 1 _ (by rw [if_pos hz]; exact bad), fun h => by cases h⟩
    by_cases hg : b % 128 > 4
    · exact ⟨2, BadR, base 1 _ (by rw [if_neg hz, if_pos hg]; exact bad), fun h => by cases h⟩
    obtain ⟨q, hq⟩ : ∃ q : Nat, b % 128 = q := ⟨(b % 128).toNat, by omega⟩
    have es : wrap64 (((at_ + 1 : Nat) : Int) + b % 128) = ((at_ + 1 + q : Nat) : Int) := by rw [w64 (by omega) (by omega), hq]; push_cast; rfl
    by_cases hc : ((at_ + 1 + q : Nat) : Int) > (x0.length : Int)
    · exact ⟨2, BadR, base 1 _ (by rw [if_neg hz, if_neg hg, es, decide_eq_true hc]; exact bad), fun h => by cases h⟩
    · obtain ⟨bs, hbs⟩ : ∃ bs, bs = (x0.drop (at_ + 1)).take q := ⟨_, rfl⟩
      have hbl : bs.length = q := by rw [hbs, List.length_take, List.length_drop]; omega
      have hbb : ∀ y ∈ bs, 0 ≤ y ∧ y < 256 := fun y hy => hx y (by rw [hbs] at hy; exact List.mem_of_mem_drop (List.mem_of_mem_take hy))
      have hu := beN_take_lt bs hbb bs.length (Nat.le_refl _)
      rw [List.take_length] at hu
      have h7 : 256 ^ bs.length ≤ 256 ^ 4 := Nat.pow_le_pow_right (by decide) (by omega)
      have h8 : (256 ^ 4 : Nat) = 4294967296 := by decide
      obtain ⟨n, hn⟩ : ∃ n : Nat, beN bs = n := ⟨(beN bs).toNat, by omega⟩
      have hj := j6_law x0 hx hl ih cls tag c (at_ + 1 + bs.length) n (by omega) (by omega) (by omega)
      rw [← hn] at hj
      obtain ⟨k, r, e, g⟩ := l1_law x0 cls tag c bs hbb (by omega) (at_ + 1) (by omega) (J6 x0 (at_ + 1 + bs.length) n cls tag c) hj bs.length 0 (by omega)
      have e3 : (x0.take (at_ + 1 + q)).drop (at_ + 1) = bs := by rw [List.drop_take, Nat.add_sub_cancel_left, hbs]
      have hj4 : spec_Read.j4 (k + 1) x0 ((at_ + 1 : Nat) : Int) (b % 128) false cls tag c = some r := by
        rw [spec_Read.j4, if_neg Bool.false_ne_true, es, if_pos (by omega), if_pos (by omega), if_pos (by omega), Option.bind_some, Int.toNat_natCast, Int.toNat_natCast, e3, hq, ← hbl]
        exact e
      refine ⟨k + 2, r, base (k + 1) _ (by rw [if_neg hz, if_neg hg, es, decide_eq_false hc]; exact hj4), fun h => ⟨n, q + 1, ?_, ?_⟩⟩
      · have hbq : (b - 128).toNat = q := by omega
        rw [hd, lenB, if_neg (by omega), if_neg (by omega), hbq, if_pos (by rw [List.length_drop]; omega), ← hbs, hn]
      · have ee : at_ + (q + 1) = at_ + 1 + bs.length := by omega
        rw [ee]
        exact g
  · obtain ⟨n, hn⟩ : ∃ n : Nat, b = n := ⟨b.toNat, by omega⟩
    obtain ⟨k, r, e, g⟩ := j6_law x0 hx hl ih cls tag c (at_ + 1) n (by omega) (by omega) (by omega)
    refine ⟨k + 1, r, ?_, fun h => ⟨n, 1, by rw [hd, lenB, if_pos (by omega), hn], g⟩⟩
    rw [spec_Read.j3, if_neg h0, if_pos (by omega), if_pos (by omega), er, ew, if_neg h128, ep, hn]
    exact e
theorem l0_law (x0 : List Int) (hx : ∀ y ∈ x0, 0 ≤ y ∧ y < 256) (hl : x0.length ≤ 1000000) (ih : ∀ b2 : List Int, b2.length < x0.length → (∀ y ∈ b2, 0 ≤ y ∧ y < 256) → ∃ k r, spec_Read.f k b2 = some r ∧ RF b2 r) (cls : Int) (c : Bool) :
    ∀ (d at_ : Nat) (acc : Int), 1 ≤ at_ → at_ + d = x0.length → 0 ≤ acc → acc < 268435456 → (at_ = 1 → ∀ h : at_ < x0.length, x0[at_] % 128 ≠ 0) →
      ∃ k r, spec_Read.l0 k x0 (at_ : Int) cls acc c = some r ∧ (r.2.2.2.2.2.2 = true → ∃ (tag : Int) (p n m : Nat), tagB (x0.drop at_) acc (at_ - 1) = some (tag, p) ∧ p + 1 ≤ x0.length ∧ lenB (x0.drop (p + 1)) = some ((n : Int), m) ∧ J6 x0 (p + 1 + m) n cls tag c r) := by
  intro d
  induction d with
  | zero =>
    intro at_ acc h1 hd _ _ _
    exact ⟨2, BadR, by rw [spec_Read.l0, if_pos (by omega), spec_Read.j2, if_pos rfl]; rfl, fun h => by cases h⟩
  | succ d ihd =>
    intro at_ acc h1 hd ha0 ha1 hz
    have hlt : at_ < x0.length := by omega
    by_cases hbig : acc ≥ 2097152
    · exact ⟨2, BadR, by rw [spec_Read.l0, if_neg (by omega), decide_eq_true hbig, spec_Read.j2, if_pos rfl]; rfl, fun h => by cases h⟩
    have hb := hx x0[at_] (List.getElem_mem hlt)
    have hdr : x0.drop at_ = x0[at_] :: x0.drop (at_ + 1) := List.drop_eq_getElem_cons hlt
    have hzz := fun h => hz h hlt
    have er := rd_get hlt
    obtain ⟨b, hbe⟩ : ∃ b, b = x0[at_] := ⟨_, rfl⟩
    rw [← hbe] at hb hdr er hzz
    have ep : wrap64 ((at_ : Int) + 1) = ((at_ + 1 : Nat) : Int) := by rw [w64 (by omega) (by omega)]; push_cast; rfl
    have ep2 : wrap64 (((at_ + 1 : Nat) : Int) - 1) = (at_ : Int) := by rw [w64 (by omega) (by omega)]; push_cast; omega
    obtain ⟨_, a2, a3, _, _⟩ := and_b hb.1 hb.2
    have eo : Go.bits .or .i64 (wrap64 (acc * 128)) (wrap64 (b % 128)) = acc * 128 + b % 128 := by
      rw [w64 (x := b % 128) (by omega) (by omega), w64 (by omega) (by omega)]
      have := or_i64_n 7 (.inl rfl) acc (b % 128) ha0 (by omega) (by omega) (by omega)
      rw [show ((2 : Int) ^ 7) = 128 by decide] at this
      exact this
    have base : ∀ k r, (if (if b < 128 then (0 : Int) else 128) = 0 then spec_Read.j3 k x0 ((at_ + 1 : Nat) : Int) cls (acc * 128 + b % 128) c else spec_Read.l0 k x0 ((at_ + 1 : Nat) : Int) cls (acc * 128 + b % 128) c) = some r → spec_Read.l0 (k + 2) x0 (at_ : Int) cls acc c = some r := fun k r h => by
      rw [spec_Read.l0, if_neg (by omega), decide_eq_false hbig, spec_Read.j2, if_neg Bool.false_ne_true, if_pos (by omega), if_pos (by omega), ep, ep2, if_pos (by omega), if_pos (by omega), er, a2, a3, eo]
      exact h
    have hne : ¬ (at_ - 1 = 0 ∧ b % 128 = 0) := fun h => hzz (by omega) h.2
    by_cases h3 : b < 128
    · obtain ⟨k, r, e, g⟩ := j3_law x0 hx hl ih cls (acc * 128 + b % 128) c (at_ + 1) (by omega) (by omega)
      refine ⟨k + 2, r, base k r (by rw [if_pos h3, if_pos rfl]; exact e), fun h => ?_⟩
      obtain ⟨n, m, hlen, hj⟩ := g h
      exact ⟨acc * 128 + b % 128, at_, n, m, by rw [hdr, tagB, if_neg (by omega), if_neg hne, if_pos h3, Nat.sub_add_cancel h1], by omega, hlen, hj⟩
    · obtain ⟨k, r, e, g⟩ := ihd (at_ + 1) (acc * 128 + b % 128) (by omega) (by omega) (by omega) (by omega) (fun h => absurd h (by omega))
      refine ⟨k + 2, r, base k r (by rw [if_neg h3, if_neg (by decide)]; exact e), fun h => ?_⟩
      obtain ⟨tag, p, n, m, ht, hp, hlen, hj⟩ := g h
      refine ⟨tag, p, n, m, ?_, hp, hlen, hj⟩
      rw [hdr, tagB, if_neg (by omega), if_neg hne, if_neg h3, Nat.sub_add_cancel h1]
      rwa [Nat.add_sub_cancel] at ht
theorem read_law : ∀ (N : Nat) (x0 : List Int), x0.length ≤ N → x0.length ≤ 1000000 → (∀ y ∈ x0, 0 ≤ y ∧ y < 256) → ∃ k r, spec_Read.f k x0 = some r ∧ RF x0 r := by
  intro N
  induction N with
  | zero =>
    intro x0 hN _ _
    exact ⟨1, BadR, by rw [spec_Read.f, if_pos (by omega)]; rfl, fun h => by cases h⟩
  | succ N ihN =>
    intro x0 hN hl hx
    by_cases h2 : (x0.length : Int) < 2
    · exact ⟨1, BadR, by rw [spec_Read.f, if_pos h2]; rfl, fun h => by cases h⟩
    have ih : ∀ b2 : List Int, b2.length < x0.length → (∀ y ∈ b2, 0 ≤ y ∧ y < 256) → ∃ k r, spec_Read.f k b2 = some r ∧ RF b2 r := fun b2 h3 h4 => ihN b2 (by omega) (by omega) h4
    obtain ⟨b, l, rfl⟩ : ∃ b l, x0 = b :: l := by
      cases x0 with
      | nil => simp at h2
      | cons b l => exact ⟨b, l, rfl⟩
    have hb := hx b List.mem_cons_self
    have er : rd (b :: l) 0 = b := by simp [rd]
    obtain ⟨a1, _, _, a4, _⟩ := and_b hb.1 hb.2
    have e1 : wrap64 (b % 32) = b % 32 := w64 (by omega) (by omega)
    have e2 : wrap64 (b / 64) = b / 64 := w64 (by omega) (by omega)
    have ec : (b / 32 % 2 * 32 != 0) = decide (b / 32 % 2 = 1) := by
      by_cases h : b / 32 % 2 = 1
      · rw [h]; decide
      · have : b / 32 % 2 = 0 := by omega
        rw [this]; decide
    have fin : ∀ (tag : Int) (pos m n : Nat) (r : RdR), idB (b :: l) = some (b / 64, decide (b / 32 % 2 = 1), tag, pos) → lenB ((b :: l).drop pos) = some ((n : Int), m) → J6 (b :: l) (pos + m) n (b / 64) tag (decide (b / 32 % 2 = 1)) r → RF (b :: l) r := by
      intro tag pos m n r hid hln hj hok
      obtain ⟨hle, d, ks, hr, hc⟩ := hj hok
      have hh : hdrB (b :: l) = some (b / 64, decide (b / 32 % 2 = 1), tag, (n : Int), pos + m) := by
        unfold hdrB
        rw [hid, Option.bind_some, hln]
        rfl
      refine ⟨pos + m + n, by rw [hr], ?_⟩
      rw [hr]
      rcases hc with ⟨hc, rfl, rfl⟩ | ⟨hc, rfl, hp⟩
      · rw [hc] at hh ⊢
        exact .prim hh hle
      · rw [hc] at hh ⊢
        exact .cons hh hle hp
    by_cases h31 : b % 32 = 31
    · have hlt : 1 < (b :: l).length := by omega
      have hb1 := hx (b :: l)[1] (List.getElem_mem hlt)
      have er1 := rd_get hlt
      rw [show (((1 : Nat) : Int)) = 1 from rfl] at er1
      obtain ⟨b1, hbe⟩ : ∃ b1, b1 = (b :: l)[1] := ⟨_, rfl⟩
      rw [← hbe] at hb1 er1
      have a2 := (and_b hb1.1 hb1.2).2.1
      have base : ∀ k r, spec_Read.j0 k (b :: l) 1 (b1 % 128 == 0) (b / 64) 0 (decide (b / 32 % 2 = 1)) = some r → spec_Read.f (k + 1) (b :: l) = some r := fun k r h => by
        rw [spec_Read.f, if_neg h2, if_pos (by omega), er, a1, e1, if_pos h31, if_pos (by omega), er1, a2, a4, e2, ec]
        exact h
      by_cases hz : b1 % 128 = 0
      · refine ⟨2, BadR, base 1 _ ?_, fun h => by cases h⟩
        have : (b1 % 128 == 0) = true := by simp [hz]
        rw [this, spec_Read.j0, if_pos rfl]
        rfl
      · obtain ⟨k, r, e, g⟩ := l0_law (b :: l) hx hl ih (b / 64) (decide (b / 32 % 2 = 1)) ((b :: l).length - 1) 1 0 (Nat.le_refl _) (by omega) (Int.le_refl 0) (by decide) (fun _ h => by rw [← hbe]; exact hz)
        have : (b1 % 128 == 0) = false := by simpa using hz
        refine ⟨k + 2, r, base (k + 1) r (by rw [this, spec_Read.j0, if_neg Bool.false_ne_true]; exact e), fun hok => ?_⟩
        obtain ⟨tag, p, n, m, ht, hp, hlen, hj⟩ := g hok
        refine fin tag (p + 1) m n r ?_ hlen hj hok
        rw [idB, if_neg (by omega)]
        have : (b :: l).drop 1 = l := rfl
        rw [this] at ht
        rw [ht]
        rfl
    · obtain ⟨k, r, e, g⟩ := j3_law (b :: l) hx hl ih (b / 64) (b % 32) (decide (b / 32 % 2 = 1)) 1 (Nat.le_refl _) (by omega)
      refine ⟨k + 1, r, ?_, fun hok => ?_⟩
      · rw [spec_Read.f, if_neg h2, if_pos (by omega), er, a1, e1, if_neg h31, a4, e2, ec]
        exact e
      · obtain ⟨n, m, hlen, hj⟩ := g hok
        exact fin (b % 32) 1 m n r (by rw [idB, if_pos (by omega)]) hlen hj hok
end Go.Proofs.YtejbpbdlolehnaaDoor.Ber
namespace Go.Proofs.YtejbpbdlolehnaaDoor.Ber
open Go.RowKit Go.Proofs.YtejbpbdlolehnaaDoorW.PrintWords Go.Proofs.YtejbpbdlolehnaaDoorW.PrintLast Go.Proofs.YtejbpbdlolehnaaDoor.Buf Go.Proofs.YtejbpbdlolehnaaDoor.Pk Go.Proofs.YtejbpbdlolehnaaDoor.Tree Go.Proofs.YtejbpbdlolehnaaDoor.Num Go.Proofs.YtejbpbdlolehnaaDoor.Ident Go.Proofs.YtejbpbdlolehnaaDoor.PFnEncode Go.Proofs.YtejbpbdlolehnaaDoor.Within
set_option linter.unusedVariables false
set_option linter.unusedSimpArgs false
mutual
theorem par_size : ∀ (x : S29) (l : List Int) (n : Nat), Par l x n → tsize x ≤ n
  | ⟨a, b, c, d, ks⟩, l, n, h => by
    cases h with
    | prim h hn =>
      have := (hdrB_app [] h).2
      simp only at this
      rw [tsize, tsizeL, List.length_take, List.length_drop]
      omega
    | cons h hn hk =>
      have := (hdrB_app [] h).2
      simp only at this
      have h2 := parL_size ks _ hk
      rw [List.length_take, List.length_drop] at h2
      rw [tsize, List.length_nil]
      omega
theorem parL_size : ∀ (ks : List S29) (l : List Int), ParL l ks → tsizeL ks ≤ l.length
  | [], l, _ => by rw [tsizeL]; omega
  | x :: xs, l, h => by
    obtain ⟨n, h1, h2⟩ := h.inv
    have a1 := par_size x l n h1
    have a2 := parL_size xs _ h2
    have a3 := h1.len
    rw [List.length_drop] at a2
    rw [tsizeL]
    omega
end
/-- what spec.Read gives where its plain form ends -/
def ReadC : Prop := ∀ (W : World) (A : Option Addr) (c k : Nat) (l : List Int) (x : S29) (m : Int) (ok : Bool), B8.C W A l.length l → l.length ≤ c → spec_Read.f k l = some (x.f0, x.f1, x.f2, x.f3, x.f4, m, ok) → Calls Tryd.prog 15 #[.slice A l.length c] W fun e w' => ∃ A5 c5 A6 c6, e = .returned (.tuple #[.agg #[.int .i64 x.f0, .int .i64 x.f1, .bool x.f2, .slice A5 x.f3.length c5, .slice A6 x.f4.length c6], .int .i64 m, .bool ok]) ∧ ((Kd.int .u8).C w' A5 x.f3.length x.f3 ∧ x.f3.length ≤ c5 ∧ k29.C w' A6 x.f4.length x.f4 ∧ x.f4.length ≤ c6) ∧ Below W.heap.size W w'
set_option maxHeartbeats 6400000 in
set_option maxRecDepth 100000 in
theorem fnDecodeAny_any (HRC : ReadC) (bh : List Int) (Ab : Option Addr) (cb : Nat) (w : World) (hb : B8.C w Ab bh.length bh) (lb : bh.length ≤ cb) (hbr : ∀ y ∈ bh, 0 ≤ y ∧ y < 256) (va ua : Addr) (hE : EofAt w va ua) :
    Calls Tryd.prog 4 #[.slice Ab bh.length cb] w fun e w' => e = .returned (.bool true) ∧ Below w.heap.size w w' := by
  obtain ⟨n9, hn9⟩ : ∃ n9, n9 = bh.length := ⟨_, rfl⟩
  have hmax : n9 ≤ 9223372036854775807 := by rw [hn9]; exact Kd.C_max hb
  have hn1 : (n9 : Int) ≤ 9223372036854775807 := by omega
  have hn0 : 0 ≤ (n9 : Int) := by omega
  have HBH := Lib.hid hb
  have HBR := Lib.hid hbr
  have HEO := Lib.hid hE
  have HLB := Lib.hid lb
  have HN9 := Lib.hid hn9
  clear hb hbr hmax hE lb
  rw [← hn9]
  by_cases hs1 : n9 ≤ 2147483647
  rotate_left
  · have q1 : decide (2147483647 < (n9 : Int)) = true := decide_eq_true (by omega)
    clear hn9 hs1
    go_enter Tryd.func4, Tryd.ntmps4
    go_wp2
    go_ret
    exact ⟨rfl, Below.refl _ _⟩
  have q1 : decide (2147483647 < (n9 : Int)) = false := decide_eq_false (by omega)
  by_cases hs2 : n9 ≤ 1000
  rotate_left
  · have q2 : decide (1000 < (n9 : Int)) = true := decide_eq_true (by omega)
    clear hn9 hs1 hs2
    go_enter Tryd.func4, Tryd.ntmps4
    go_wp2_with (first
      | (go_at_call 10
         refine (works_any _).mono ?_
         rintro e W9 ⟨rfl, hB9⟩
         have HB9 := Lib.hid hB9
         clear hB9))
    go_ret
    exact ⟨rfl, HB9.out⟩
  have q2 : decide (1000 < (n9 : Int)) = false := decide_eq_false (by omega)
  obtain ⟨kr, r, hf, hrf⟩ := read_law 1000 bh (by omega) (by omega) HBR.out
  obtain ⟨x, m, ok, hr⟩ : ∃ (x : S29) (m : Int) (ok : Bool), r = (x.f0, x.f1, x.f2, x.f3, x.f4, m, ok) := ⟨⟨r.1, r.2.1, r.2.2.1, r.2.2.2.1, r.2.2.2.2.1⟩, r.2.2.2.2.2.1, r.2.2.2.2.2.2, rfl⟩
  subst hr
  have HRD : Hid (Calls Tryd.prog 15 #[.slice Ab n9 cb] w fun e w' => ∃ A5 c5 A6 c6, e = .returned (.tuple #[.agg #[.int .i64 x.f0, .int .i64 x.f1, .bool x.f2, .slice A5 x.f3.length c5, .slice A6 x.f4.length c6], .int .i64 m, .bool ok]) ∧ ((Kd.int .u8).C w' A5 x.f3.length x.f3 ∧ x.f3.length ≤ c5 ∧ k29.C w' A6 x.f4.length x.f4 ∧ x.f4.length ≤ c6) ∧ Below w.heap.size w w') := Lib.hid (by
    rw [hn9]
    exact HRC w Ab cb kr bh x m ok HBH.out HLB.out hf)
  cases ok with
  | false =>
    clear hf hrf hn9 hs1 hs2
    go_enter Tryd.func4, Tryd.ntmps4
    go_wp2_with (first
      | (go_at_call 15
         with_reducible refine HRD.out.mono ?_
         rintro e W3 ⟨A5, c5, A6, c6, rfl, h5, hB3⟩
         have HC3 := Lib.hid h5
         have HB3 := Lib.hid hB3
         clear hB3 h5)
      | (go_at_call 10
         refine (works_any _).mono ?_
         rintro e W9 ⟨rfl, hB9⟩
         have HB9 := Lib.hid hB9
         clear hB9))
    go_ret
    exact ⟨rfl, (HB3.out.trans (below_alloc (Below.refl _ _) _ |>.mono HB3.out.size)).trans (HB9.out.mono (by have := HB3.out.size; simp; omega))⟩
  | true =>
  obtain ⟨n, hm, hP⟩ := hrf rfl
  replace hP : Par bh x n := by obtain ⟨x0, x1, x2, x3, x4⟩ := x; exact hP
  replace hm : m = (n : Int) := hm
  have hts := par_size x bh n hP
  have hnl := hP.len
  obtain ⟨kf, b, hfit, hgood⟩ := fits_all x (by omega)
  have HFT : Hid (∀ (W : World) (A5 : Option Addr) (c5 : Nat) (A6 : Option Addr) (c6 : Nat), (Kd.int .u8).C W A5 x.f3.length x.f3 → x.f3.length ≤ c5 → k29.C W A6 x.f4.length x.f4 → x.f4.length ≤ c6 → Calls Tryd.prog 8 #[.agg #[.int .i64 x.f0, .int .i64 x.f1, .bool x.f2, .slice A5 x.f3.length c5, .slice A6 x.f4.length c6]] W fun e w' => e = .returned (.bool b) ∧ Below W.heap.size W w') :=
    Lib.hid (fun W A5 c5 A6 c6 h5 l5 h6 l6 => laws_fits.calls kf _ _ _ _ _ _ _ _ _ b W h5 l5 h6 l6 hfit)
  cases b with
  | false =>
    clear hf hrf hn9 hs1 hs2 hm hP hts hnl hfit hgood
    go_enter Tryd.func4, Tryd.ntmps4
    go_wp2_with (first
      | (go_at_call 15
         with_reducible refine HRD.out.mono ?_
         rintro e W3 ⟨A5, c5, A6, c6, rfl, h5, hB3⟩
         have HC3 := Lib.hid h5
         have HB3 := Lib.hid hB3
         clear hB3 h5)
      | (go_at_call 8
         obtain ⟨W4, hW4⟩ : ∃ W4, W4 = W3.alloc (.cells #[.int .i64 x.f0, .int .i64 x.f1, .bool x.f2, .slice A5 x.f3.length c5, .slice A6 x.f4.length c6] 29) := ⟨_, rfl⟩
         rw [← hW4]
         have hb4 : Below W3.heap.size W3 W4 := by rw [hW4]; exact below_alloc (Below.refl _ _) _
         have hx4 : W4.heap[W3.heap.size]? = some (.cells #[.int .i64 x.f0, .int .i64 x.f1, .bool x.f2, .slice A5 x.f3.length c5, .slice A6 x.f4.length c6] 29 (0, 0)) := by rw [hW4]; exact blk_new _ _
         clear hW4
         refine (HFT.out W4 A5 c5 A6 c6 (Kd.C_below HC3.out.1 hb4) HC3.out.2.1 (Kd.C_below HC3.out.2.2.1 hb4) HC3.out.2.2.2).mono ?_
         rintro e W5 ⟨rfl, hB5⟩
         have hb5 : Below W3.heap.size W3 W5 := hb4.trans (hB5.mono hb4.size)
         have HC5 : Hid ((Kd.int .u8).C W5 A5 x.f3.length x.f3 ∧ x.f3.length ≤ c5 ∧ k29.C W5 A6 x.f4.length x.f4 ∧ x.f4.length ≤ c6) := Lib.hid ⟨Kd.C_below HC3.out.1 hb5, HC3.out.2.1, Kd.C_below HC3.out.2.2.1 hb5, HC3.out.2.2.2⟩
         have HB5 := Lib.hid (HB3.out.trans (hb5.mono HB3.out.size))
         have HY5 := Lib.hid (blk_below hx4 hB5)
         have d0 : W5.cell? ⟨W3.heap.size, 0, none⟩ = some (.int .i64 x.f0) := blk_cell HY5.out 0
         have d1 : W5.cell? ⟨W3.heap.size, 1, none⟩ = some (.int .i64 x.f1) := blk_cell HY5.out 1
         have d2 : W5.cell? ⟨W3.heap.size, 2, none⟩ = some (.bool x.f2) := blk_cell HY5.out 2
         have d3 : W5.cell? ⟨W3.heap.size, 3, none⟩ = some (.slice A5 x.f3.length c5) := blk_cell HY5.out 3
         have d4 : W5.cell? ⟨W3.heap.size, 4, none⟩ = some (.slice A6 x.f4.length c6) := blk_cell HY5.out 4
         clear hb4 hx4 hB5 hb5 HC3)
      | (go_at_call 10
         refine (works_any _).mono ?_
         rintro e W9 ⟨rfl, hB9⟩
         have HB9 := Lib.hid hB9
         clear hB9))
    go_ret
    exact ⟨rfl, HB5.out.trans (HB9.out.mono HB5.out.size)⟩
  | true =>
  obtain ⟨hgd, hts5, htd⟩ := hgood rfl
  obtain ⟨kk, kb, hk, hkp⟩ := kept_kp x hgd (by omega)
  have HKT : Hid (∀ (W : World) (A5 : Option Addr) (c5 : Nat) (A6 : Option Addr) (c6 : Nat), (Kd.int .u8).C W A5 x.f3.length x.f3 → x.f3.length ≤ c5 → k29.C W A6 x.f4.length x.f4 → x.f4.length ≤ c6 → Calls Tryd.prog 9 #[.agg #[.int .i64 x.f0, .int .i64 x.f1, .bool x.f2, .slice A5 x.f3.length c5, .slice A6 x.f4.length c6]] W fun e w' => e = .returned (.bool kb) ∧ Below W.heap.size W w') :=
    Lib.hid (fun W A5 c5 A6 c6 h5 l5 h6 l6 => spec_Kept.calls kk _ _ _ _ _ _ _ _ _ kb W h5 l5 h6 l6 hk)
  cases kb with
  | false =>
    clear hf hrf hn9 hs1 hs2 hm hP hts hnl hfit hgood hgd hts5 htd hk hkp
    go_enter Tryd.func4, Tryd.ntmps4
    go_wp2_with (first
      | (go_at_call 15
         with_reducible refine HRD.out.mono ?_
         rintro e W3 ⟨A5, c5, A6, c6, rfl, h5, hB3⟩
         have HC3 := Lib.hid h5
         have HB3 := Lib.hid hB3
         clear hB3 h5)
      | (go_at_call 8
         obtain ⟨W4, hW4⟩ : ∃ W4, W4 = W3.alloc (.cells #[.int .i64 x.f0, .int .i64 x.f1, .bool x.f2, .slice A5 x.f3.length c5, .slice A6 x.f4.length c6] 29) := ⟨_, rfl⟩
         rw [← hW4]
         have hb4 : Below W3.heap.size W3 W4 := by rw [hW4]; exact below_alloc (Below.refl _ _) _
         have hx4 : W4.heap[W3.heap.size]? = some (.cells #[.int .i64 x.f0, .int .i64 x.f1, .bool x.f2, .slice A5 x.f3.length c5, .slice A6 x.f4.length c6] 29 (0, 0)) := by rw [hW4]; exact blk_new _ _
         clear hW4
         refine (HFT.out W4 A5 c5 A6 c6 (Kd.C_below HC3.out.1 hb4) HC3.out.2.1 (Kd.C_below HC3.out.2.2.1 hb4) HC3.out.2.2.2).mono ?_
         rintro e W5 ⟨rfl, hB5⟩
         have hb5 : Below W3.heap.size W3 W5 := hb4.trans (hB5.mono hb4.size)
         have HC5 : Hid ((Kd.int .u8).C W5 A5 x.f3.length x.f3 ∧ x.f3.length ≤ c5 ∧ k29.C W5 A6 x.f4.length x.f4 ∧ x.f4.length ≤ c6) := Lib.hid ⟨Kd.C_below HC3.out.1 hb5, HC3.out.2.1, Kd.C_below HC3.out.2.2.1 hb5, HC3.out.2.2.2⟩
         have HB5 := Lib.hid (HB3.out.trans (hb5.mono HB3.out.size))
         have HY5 := Lib.hid (blk_below hx4 hB5)
         have d0 : W5.cell? ⟨W3.heap.size, 0, none⟩ = some (.int .i64 x.f0) := blk_cell HY5.out 0
         have d1 : W5.cell? ⟨W3.heap.size, 1, none⟩ = some (.int .i64 x.f1) := blk_cell HY5.out 1
         have d2 : W5.cell? ⟨W3.heap.size, 2, none⟩ = some (.bool x.f2) := blk_cell HY5.out 2
         have d3 : W5.cell? ⟨W3.heap.size, 3, none⟩ = some (.slice A5 x.f3.length c5) := blk_cell HY5.out 3
         have d4 : W5.cell? ⟨W3.heap.size, 4, none⟩ = some (.slice A6 x.f4.length c6) := blk_cell HY5.out 4
         clear hb4 hx4 hB5 hb5 HC3)
      | (go_at_call 9
         refine (HKT.out W5 A5 c5 A6 c6 HC5.out.1 HC5.out.2.1 HC5.out.2.2.1 HC5.out.2.2.2).mono ?_
         rintro e W6 ⟨rfl, hB6⟩
         have HC6 : Hid ((Kd.int .u8).C W6 A5 x.f3.length x.f3 ∧ x.f3.length ≤ c5 ∧ k29.C W6 A6 x.f4.length x.f4 ∧ x.f4.length ≤ c6) := Lib.hid ⟨Kd.C_below HC5.out.1 hB6, HC5.out.2.1, Kd.C_below HC5.out.2.2.1 hB6, HC5.out.2.2.2⟩
         have HB6 := Lib.hid (HB5.out.trans (hB6.mono HB5.out.size))
         have HY6 := Lib.hid (blk_below HY5.out hB6)
         have f0 : W6.cell? ⟨W3.heap.size, 0, none⟩ = some (.int .i64 x.f0) := blk_cell HY6.out 0
         have f1 : W6.cell? ⟨W3.heap.size, 1, none⟩ = some (.int .i64 x.f1) := blk_cell HY6.out 1
         have f2 : W6.cell? ⟨W3.heap.size, 2, none⟩ = some (.bool x.f2) := blk_cell HY6.out 2
         have f3 : W6.cell? ⟨W3.heap.size, 3, none⟩ = some (.slice A5 x.f3.length c5) := blk_cell HY6.out 3
         have f4 : W6.cell? ⟨W3.heap.size, 4, none⟩ = some (.slice A6 x.f4.length c6) := blk_cell HY6.out 4
         clear hB6 d0 d1 d2 d3 d4)
      | (go_at_call 10
         refine (works_any _).mono ?_
         rintro e W9 ⟨rfl, hB9⟩
         have HB9 := Lib.hid hB9
         clear hB9))
    go_ret
    exact ⟨rfl, HB6.out.trans (HB9.out.mono HB6.out.size)⟩
  | true =>
  replace hkp := hkp rfl
  have hmr := mir_rd x hgd
  obtain ⟨y, hy⟩ : ∃ y, y = trOf (rdPk x) := ⟨_, rfl⟩
  rw [← hy] at hmr
  obtain ⟨q, hq⟩ : ∃ q : Int, q = ((bh.length - n : Nat) : Int) := ⟨_, rfl⟩
  have HQ : Hid (wrap64 ((n9 : Int) - m) = q) := Lib.hid (by rw [w64 (by omega) (by omega)]; omega)
  have HDE : Hid (∀ (W : World), Below w.heap.size w W → Calls Tryd.prog 11 #[.slice Ab n9 cb] W fun e w' => ∃ B3 e3 B4 e4, e = .returned (.tuple #[.agg #[.int .i64 y.f0, .int .i64 y.f1, .bool y.f2, .slice B3 y.f3.length e3, .slice B4 y.f4.length e4], .int .i64 q, .bool true]) ∧ (y.f3.length ≤ e3 ∧ B8.C w' B3 y.f3.length y.f3 ∧ y.f4.length ≤ e4 ∧ k25.C w' B4 y.f4.length y.f4) ∧ Below W.heap.size W w') := Lib.hid (fun W hb => by
    rw [hn9]
    have hD := decode_any x (by omega) hkp hgd (by omega) va ua Ab cb bh [] n W (HEO.out.keep (S := fun _ => True) HEO.out.lt hb.block) (Kd.C_below HBH.out hb) (by rw [List.append_nil]; exact hP) (by rw [List.append_nil]; exact HBR.out) (by rw [List.append_nil]; omega)
    refine hD.mono ?_
    rintro e w' ⟨h1, _, hB⟩
    obtain ⟨B3, e3, B4, e4, he, m3, g3, m4, g4⟩ := h1 (by omega)
    rw [← hq, ← hy] at he
    rw [← hy] at m3 g3 m4 g4
    exact ⟨B3, e3, B4, e4, he, ⟨m3, g3, m4, g4⟩, hB⟩)
  have hwi : (wi 60 y 200000).1 = x := by rw [wi_fit 60 y 200000 (by rw [hmr]; omega) (by rw [hmr]; omega), hmr]
  have hly : lens y = true := lens_of y (by rw [hmr]; omega)
  have HAN : Hid (∀ B3 e3 B4 e4 (W : World), (y.f3.length ≤ e3 ∧ B8.C W B3 y.f3.length y.f3 ∧ y.f4.length ≤ e4 ∧ k25.C W B4 y.f4.length y.f4) → Calls Tryd.prog 14 #[.agg #[.int .i64 y.f0, .int .i64 y.f1, .bool y.f2, .slice B3 y.f3.length e3, .slice B4 y.f4.length e4]] W (Got W x)) := Lib.hid (fun B3 e3 B4 e4 W h => by
    have := answer_any y B3 e3 B4 e4 W h.2.1 h.1 h.2.2.2 h.2.2.1 hly
    rwa [hwi] at this)
  obtain ⟨ks, hks⟩ := same_eq x (by omega)
  have HSA : Hid (∀ (W : World) G3 h3 G4 h4 A5 c5 A6 c6, (x.f3.length ≤ h3 ∧ (Kd.int .u8).C W G3 x.f3.length x.f3 ∧ x.f4.length ≤ h4 ∧ k29.C W G4 x.f4.length x.f4) → ((Kd.int .u8).C W A5 x.f3.length x.f3 ∧ x.f3.length ≤ c5 ∧ k29.C W A6 x.f4.length x.f4 ∧ x.f4.length ≤ c6) → Calls Tryd.prog 13 #[.agg #[.int .i64 x.f0, .int .i64 x.f1, .bool x.f2, .slice G3 x.f3.length h3, .slice G4 x.f4.length h4], .agg #[.int .i64 x.f0, .int .i64 x.f1, .bool x.f2, .slice A5 x.f3.length c5, .slice A6 x.f4.length c6]] W fun e w' => e = .returned (.bool true) ∧ Below W.heap.size W w') := Lib.hid (fun W G3 h3 G4 h4 A5 c5 A6 c6 h1 h2 =>
    spec_Same.calls ks _ _ _ _ _ _ _ _ _ _ _ _ _ _ _ _ _ _ true W h1.2.1 h1.1 h1.2.2.2 h1.2.2.1 h2.1 h2.2.1 h2.2.2.1 h2.2.2.2 hks)
  clear hf hrf hn9 hs1 hs2 hm hP hts hnl hfit hgood hgd hts5 htd hk hkp hmr hy hq hwi hly hks
  go_enter Tryd.func4, Tryd.ntmps4
  go_upto_region 9 with (first
    | (go_at_call 15
       with_reducible refine HRD.out.mono ?_
       rintro e W3 ⟨A5, c5, A6, c6, rfl, h5, hB3⟩
       have HC3 := Lib.hid h5
       have HB3 := Lib.hid hB3
       clear hB3 h5)
    | (go_at_call 8
       obtain ⟨W4, hW4⟩ : ∃ W4, W4 = W3.alloc (.cells #[.int .i64 x.f0, .int .i64 x.f1, .bool x.f2, .slice A5 x.f3.length c5, .slice A6 x.f4.length c6] 29) := ⟨_, rfl⟩
       rw [← hW4]
       have hb4 : Below W3.heap.size W3 W4 := by rw [hW4]; exact below_alloc (Below.refl _ _) _
       have hx4 : W4.heap[W3.heap.size]? = some (.cells #[.int .i64 x.f0, .int .i64 x.f1, .bool x.f2, .slice A5 x.f3.length c5, .slice A6 x.f4.length c6] 29 (0, 0)) := by rw [hW4]; exact blk_new _ _
       clear hW4
       refine (HFT.out W4 A5 c5 A6 c6 (Kd.C_below HC3.out.1 hb4) HC3.out.2.1 (Kd.C_below HC3.out.2.2.1 hb4) HC3.out.2.2.2).mono ?_
       rintro e W5 ⟨rfl, hB5⟩
       have hb5 : Below W3.heap.size W3 W5 := hb4.trans (hB5.mono hb4.size)
       have HC5 : Hid ((Kd.int .u8).C W5 A5 x.f3.length x.f3 ∧ x.f3.length ≤ c5 ∧ k29.C W5 A6 x.f4.length x.f4 ∧ x.f4.length ≤ c6) := Lib.hid ⟨Kd.C_below HC3.out.1 hb5, HC3.out.2.1, Kd.C_below HC3.out.2.2.1 hb5, HC3.out.2.2.2⟩
       have HB5 := Lib.hid (HB3.out.trans (hb5.mono HB3.out.size))
       have HY5 := Lib.hid (blk_below hx4 hB5)
       have d0 : W5.cell? ⟨W3.heap.size, 0, none⟩ = some (.int .i64 x.f0) := blk_cell HY5.out 0
       have d1 : W5.cell? ⟨W3.heap.size, 1, none⟩ = some (.int .i64 x.f1) := blk_cell HY5.out 1
       have d2 : W5.cell? ⟨W3.heap.size, 2, none⟩ = some (.bool x.f2) := blk_cell HY5.out 2
       have d3 : W5.cell? ⟨W3.heap.size, 3, none⟩ = some (.slice A5 x.f3.length c5) := blk_cell HY5.out 3
       have d4 : W5.cell? ⟨W3.heap.size, 4, none⟩ = some (.slice A6 x.f4.length c6) := blk_cell HY5.out 4
       clear hb4 hx4 hB5 hb5 HC3)
    | (go_at_call 9
       refine (HKT.out W5 A5 c5 A6 c6 HC5.out.1 HC5.out.2.1 HC5.out.2.2.1 HC5.out.2.2.2).mono ?_
       rintro e W6 ⟨rfl, hB6⟩
       have HC6 : Hid ((Kd.int .u8).C W6 A5 x.f3.length x.f3 ∧ x.f3.length ≤ c5 ∧ k29.C W6 A6 x.f4.length x.f4 ∧ x.f4.length ≤ c6) := Lib.hid ⟨Kd.C_below HC5.out.1 hB6, HC5.out.2.1, Kd.C_below HC5.out.2.2.1 hB6, HC5.out.2.2.2⟩
       have HB6 := Lib.hid (HB5.out.trans (hB6.mono HB5.out.size))
       have HY6 := Lib.hid (blk_below HY5.out hB6)
       have f0 : W6.cell? ⟨W3.heap.size, 0, none⟩ = some (.int .i64 x.f0) := blk_cell HY6.out 0
       have f1 : W6.cell? ⟨W3.heap.size, 1, none⟩ = some (.int .i64 x.f1) := blk_cell HY6.out 1
       have f2 : W6.cell? ⟨W3.heap.size, 2, none⟩ = some (.bool x.f2) := blk_cell HY6.out 2
       have f3 : W6.cell? ⟨W3.heap.size, 3, none⟩ = some (.slice A5 x.f3.length c5) := blk_cell HY6.out 3
       have f4 : W6.cell? ⟨W3.heap.size, 4, none⟩ = some (.slice A6 x.f4.length c6) := blk_cell HY6.out 4
       clear hB6 d0 d1 d2 d3 d4)
    | (go_at_call 11
       with_reducible refine (HDE.out W6 HB6.out).mono ?_
       rintro e W10 ⟨B3, e3, B4, e4, rfl, hg, hB10⟩
       have HG10 := Lib.hid hg
       have HB10 := Lib.hid (HB6.out.trans (hB10.mono HB6.out.size))
       have HY10 := Lib.hid (blk_below HY6.out hB10)
       have HC10 : Hid ((Kd.int .u8).C W10 A5 x.f3.length x.f3 ∧ x.f3.length ≤ c5 ∧ k29.C W10 A6 x.f4.length x.f4 ∧ x.f4.length ≤ c6) := Lib.hid ⟨Kd.C_below HC6.out.1 hB10, HC6.out.2.1, Kd.C_below HC6.out.2.2.1 hB10, HC6.out.2.2.2⟩
       clear hg hB10 f0 f1 f2 f3 f4))
  obtain ⟨W11, hW11⟩ : ∃ W11, W11 = W10.alloc (.cells #[.int .i64 y.f0, .int .i64 y.f1, .bool y.f2, .slice B3 y.f3.length e3, .slice B4 y.f4.length e4] 25) := ⟨_, rfl⟩
  rw [← hW11]
  have hb11 : Below W10.heap.size W10 W11 := by rw [hW11]; exact below_alloc (Below.refl _ _) _
  obtain ⟨g6, hg6⟩ : ∃ g6, g6 = W10.heap.size := ⟨_, rfl⟩
  obtain ⟨g5, hg5⟩ : ∃ g5, g5 = W3.heap.size := ⟨_, rfl⟩
  have HUV : Hid (W11.drew.heap[g6]? = some (.cells #[.int .i64 y.f0, .int .i64 y.f1, .bool y.f2, .slice B3 y.f3.length e3, .slice B4 y.f4.length e4] 25 (0, 0))) := Lib.hid (by rw [hg6]; show W11.heap[W10.heap.size]? = _; rw [hW11]; exact blk_new _ _)
  have HYV : Hid (W11.drew.heap[g5]? = some (.cells #[.int .i64 x.f0, .int .i64 x.f1, .bool x.f2, .slice A5 x.f3.length c5, .slice A6 x.f4.length c6] 29 (0, 0))) := Lib.hid (by rw [hg5]; show W11.heap[W3.heap.size]? = _; exact blk_below HY10.out hb11)
  have HBV : Hid (Below w.heap.size w W11.drew) := Lib.hid ((HB10.out.trans (hb11.mono HB10.out.size)).drew)
  have HXV : Hid ((Kd.int .u8).C W11.drew A5 x.f3.length x.f3 ∧ x.f3.length ≤ c5 ∧ k29.C W11.drew A6 x.f4.length x.f4 ∧ x.f4.length ≤ c6) := Lib.hid ⟨Kd.C_drew (Kd.C_below HC10.out.1 hb11), HC10.out.2.1, Kd.C_drew (Kd.C_below HC10.out.2.2.1 hb11), HC10.out.2.2.2⟩
  have HCV : Hid (y.f3.length ≤ e3 ∧ B8.C W11.drew B3 y.f3.length y.f3 ∧ y.f4.length ≤ e4 ∧ k25.C W11.drew B4 y.f4.length y.f4) := Lib.hid ⟨HG10.out.1, Kd.C_drew (Kd.C_below HG10.out.2.1 hb11), HG10.out.2.2.1, Kd.C_drew (Kd.C_below HG10.out.2.2.2 hb11)⟩
  rw [← hg6, ← hg5]
  clear hW11 hb11 hg6 hg5 HB3 HC5 HB5 HY5 HC6 HB6 HY6 HG10 HB10 HY10 HC10 HDE HRD HFT HKT
  refine start_ (n := 19) (S := fun w' => w'.cell? ⟨g6, 0, none⟩ = some (.int .i64 y.f0) ∧ w'.cell? ⟨g6, 1, none⟩ = some (.int .i64 y.f1) ∧ w'.cell? ⟨g6, 2, none⟩ = some (.bool y.f2) ∧ w'.cell? ⟨g6, 3, none⟩ = some (.slice B3 y.f3.length e3) ∧ w'.cell? ⟨g6, 4, none⟩ = some (.slice B4 y.f4.length e4) ∧ w'.cell? ⟨g5, 0, none⟩ = some (.int .i64 x.f0) ∧ w'.cell? ⟨g5, 1, none⟩ = some (.int .i64 x.f1) ∧ w'.cell? ⟨g5, 2, none⟩ = some (.bool x.f2) ∧ w'.cell? ⟨g5, 3, none⟩ = some (.slice A5 x.f3.length c5) ∧ w'.cell? ⟨g5, 4, none⟩ = some (.slice A6 x.f4.length c6)) (ds := []) #[nN,nN,nN,nN,nN,nN,nN,nN,nN,nN,nN,nN,nN,nN,nN,nN,nN,nN,nN] (by kernel_rfl) rfl rfl ⟨blk_cell (HUV.out) 0, blk_cell (HUV.out) 1, blk_cell (HUV.out) 2, blk_cell (HUV.out) 3, blk_cell (HUV.out) 4, blk_cell (HYV.out) 0, blk_cell (HYV.out) 1, blk_cell (HYV.out) 2, blk_cell (HYV.out) 3, blk_cell (HYV.out) 4⟩ (fun hHeld => ?_)
  obtain ⟨V, hV⟩ : ∃ X, X = W11.drew := ⟨_, rfl⟩
  rw [← hV] at HUV HYV HXV HCV HBV hHeld ⊢
  clear hV
  refine pure_ (i := 0) (N := some 41) (v := ?_) (a' := ?_) #[yY,nN,nN,nN,nN,nN,nN,nN,nN,nN,nN,nN,nN,nN,nN,nN,nN,nN,nN] rfl rfl (by kernel_rfl) (fun _ _ _ h => h) (Or.inl ⟨by rfl, ?_⟩) ?_ ?_
  rotate_left
  · intro w'
    go_simp
    with_reducible rfl
  rotate_left
  · simp only [Act.put, List.setIfInBounds_toArray, List.set_cons_zero, List.set_cons_succ, i64_w, i32_w]
    rfl
  refine pure_ (i := 1) (N := some 42) (v := ?_) (a' := ?_) #[yY,yY,nN,nN,nN,nN,nN,nN,nN,nN,nN,nN,nN,nN,nN,nN,nN,nN,nN] rfl rfl (by kernel_rfl) (fun _ _ _ h => h) (Or.inl ⟨by rfl, ?_⟩) ?_ ?_
  rotate_left
  · intro w'
    go_simp
    with_reducible rfl
  rotate_left
  · simp only [Act.put, List.setIfInBounds_toArray, List.set_cons_zero, List.set_cons_succ, i64_w, i32_w]
    rfl
  refine pure_ (i := 2) (N := some 43) (v := ?_) (a' := ?_) #[yY,yY,yY,nN,nN,nN,nN,nN,nN,nN,nN,nN,nN,nN,nN,nN,nN,nN,nN] rfl rfl (by kernel_rfl) (fun _ _ _ h => h) (Or.inl ⟨by rfl, ?_⟩) ?_ ?_
  rotate_left
  · intro w'
    go_simp
    with_reducible rfl
  rotate_left
  · simp only [Act.put, List.setIfInBounds_toArray, List.set_cons_zero, List.set_cons_succ, i64_w, i32_w]
    rfl
  refine pure_ (i := 3) (N := some 44) (v := ?_) (a' := ?_) #[yY,yY,yY,yY,nN,nN,nN,nN,nN,nN,nN,nN,nN,nN,nN,nN,nN,nN,nN] rfl rfl (by kernel_rfl) (fun _ _ _ h => h) (Or.inl ⟨by rfl, ?_⟩) ?_ ?_
  rotate_left
  · intro w'
    go_simp
    with_reducible rfl
  rotate_left
  · simp only [Act.put, List.setIfInBounds_toArray, List.set_cons_zero, List.set_cons_succ, i64_w, i32_w]
    rfl
  refine pure_ (i := 4) (N := some 45) (v := ?_) (a' := ?_) #[yY,yY,yY,yY,yY,nN,nN,nN,nN,nN,nN,nN,nN,nN,nN,nN,nN,nN,nN] rfl rfl (by kernel_rfl) (fun _ _ _ h => h) (Or.inl ⟨by rfl, ?_⟩) ?_ ?_
  rotate_left
  · intro w'
    go_simp
    with_reducible rfl
  rotate_left
  · simp only [Act.put, List.setIfInBounds_toArray, List.set_cons_zero, List.set_cons_succ, i64_w, i32_w]
    rfl
  refine pure_ (i := 5) (N := some 46) (v := ?_) (a' := ?_) #[yY,yY,yY,yY,yY,yY,nN,nN,nN,nN,nN,nN,nN,nN,nN,nN,nN,nN,nN] rfl rfl (by kernel_rfl) (fun _ _ _ h => h) (Or.inl ⟨by rfl, ?_⟩) ?_ ?_
  rotate_left
  · intro w'
    go_simp
    with_reducible rfl
  rotate_left
  · simp only [Act.put, List.setIfInBounds_toArray, List.set_cons_zero, List.set_cons_succ, i64_w, i32_w]
    rfl
  refine pure_ (i := 6) (N := some 47) (v := ?_) (a' := ?_) #[yY,yY,yY,yY,yY,yY,yY,nN,nN,nN,nN,nN,nN,nN,nN,nN,nN,nN,nN] rfl rfl (by kernel_rfl) (fun _ _ _ h => h) (Or.inl ⟨by rfl, ?_⟩) ?_ ?_
  rotate_left
  · intro w'
    go_simp
    with_reducible rfl
  rotate_left
  · simp only [Act.put, List.setIfInBounds_toArray, List.set_cons_zero, List.set_cons_succ, i64_w, i32_w, HQ.out]
    rfl
  refine pure_ (i := 7) (N := some 48) (v := ?_) (a' := ?_) #[yY,yY,yY,yY,yY,yY,yY,yY,nN,nN,nN,nN,nN,nN,nN,nN,nN,nN,nN] rfl rfl (by kernel_rfl) (fun _ _ _ h => h) (Or.inl ⟨by rfl, ?_⟩) ?_ ?_
  rotate_left
  · intro w'
    go_simp
    with_reducible rfl
  rotate_left
  · simp only [Act.put, List.setIfInBounds_toArray, List.set_cons_zero, List.set_cons_succ, i64_w, i32_w]
    rfl
  refine pure_ (i := 8) (N := some 49) (v := ?_) (a' := ?_) #[yY,yY,yY,yY,yY,yY,yY,yY,yY,nN,nN,nN,nN,nN,nN,nN,nN,nN,nN] rfl rfl (by kernel_rfl) (fun _ _ _ h => h) (Or.inl ⟨by rfl, ?_⟩) ?_ ?_
  rotate_left
  · intro w'
    go_simp
    with_reducible rfl
  rotate_left
  · simp only [Act.put, List.setIfInBounds_toArray, List.set_cons_zero, List.set_cons_succ, i64_w, i32_w]
    rfl
  refine pure_ (i := 9) (N := some 50) (v := ?_) (a' := ?_) #[yY,yY,yY,yY,yY,yY,yY,yY,yY,yY,nN,nN,nN,nN,nN,nN,nN,nN,nN] rfl rfl (by kernel_rfl) (fun _ _ _ h => h) (Or.inl ⟨by rfl, ?_⟩) ?_ ?_
  rotate_left
  · intro w'
    go_simp
    with_reducible rfl
  rotate_left
  · simp only [Act.put, List.setIfInBounds_toArray, List.set_cons_zero, List.set_cons_succ, i64_w, i32_w]
    rfl
  refine take_ (i := 10) (N := some 51) (v := ?_) (a' := ?_) #[yY,yY,yY,yY,yY,yY,yY,yY,yY,yY,yY,nN,nN,nN,nN,nN,nN,nN,nN] rfl rfl (by kernel_rfl) (fun _ _ _ h => h) (Or.inl ⟨by rfl, ?_⟩) hHeld ?_ ?_
  rotate_left
  · rintro w' ⟨s0, s1, s2, s3, s4, s5, s6, s7, s8, s9⟩
    go_simp
    with_reducible rfl
  rotate_left
  · simp only [Act.put, List.setIfInBounds_toArray, List.set_cons_zero, List.set_cons_succ, i64_w, i32_w]
    rfl
  refine take_ (i := 12) (N := some 53) (v := ?_) (a' := ?_) #[yY,yY,yY,yY,yY,yY,yY,yY,yY,yY,yY,nN,yY,nN,nN,nN,nN,nN,nN] rfl rfl (by kernel_rfl) (fun _ _ _ h => h) (Or.inl ⟨by rfl, ?_⟩) hHeld ?_ ?_
  rotate_left
  · rintro w' ⟨s0, s1, s2, s3, s4, s5, s6, s7, s8, s9⟩
    go_simp
    with_reducible rfl
  rotate_left
  · simp only [Act.put, List.setIfInBounds_toArray, List.set_cons_zero, List.set_cons_succ, i64_w, i32_w]
    rfl
  refine one_ (i := 11) (N := some 52) #[yY,yY,yY,yY,yY,yY,yY,yY,yY,yY,yY,yY,yY,nN,nN,nN,nN,nN,nN] rfl rfl (by kernel_rfl) (by decide) (fun K hK => ?_)
  refine goes_ Tryd.func14 (by kernel_rfl) rfl #[.agg #[.int .i64 y.f0, .int .i64 y.f1, .bool y.f2, .slice B3 y.f3.length e3, .slice B4 y.f4.length e4]] (by rfl) rfl rfl (by simp only [List.map_toArray, List.map_cons, List.map_nil]; rfl) ?_
  with_reducible refine (HAN.out B3 e3 B4 e4 V HCV.out).mono ?_
  rintro e V1 ⟨G3, h3, G4, h4, rfl, n3, q3, n4, q4, hB11⟩
  refine ⟨_, rfl, ?_⟩
  have HB11 := Lib.hid (HBV.out.trans (hB11.mono HBV.out.size))
  have HU11 := Lib.hid (blk_below HUV.out hB11)
  have HY11 := Lib.hid (blk_below HYV.out hB11)
  have HC11 : Hid ((Kd.int .u8).C V1 A5 x.f3.length x.f3 ∧ x.f3.length ≤ c5 ∧ k29.C V1 A6 x.f4.length x.f4 ∧ x.f4.length ≤ c6) := Lib.hid ⟨Kd.C_below HXV.out.1 hB11, HXV.out.2.1, Kd.C_below HXV.out.2.2.1 hB11, HXV.out.2.2.2⟩
  have HG11 := Lib.hid (And.intro n3 (And.intro q3 (And.intro n4 q4)))
  clear n3 q3 n4 q4 hB11
  refine hK.out _ _ ⟨blk_cell (HU11.out) 0, blk_cell (HU11.out) 1, blk_cell (HU11.out) 2, blk_cell (HU11.out) 3, blk_cell (HU11.out) 4, blk_cell (HY11.out) 0, blk_cell (HY11.out) 1, blk_cell (HY11.out) 2, blk_cell (HY11.out) 3, blk_cell (HY11.out) 4⟩ (fun hHeld => ?_)
  clear hK K
  refine norm_ (a' := ?_) ?_ ?_
  rotate_left
  · show Act.put _ (some 52) _ = _
    simp only [Act.put, List.setIfInBounds_toArray, List.set_cons_zero, List.set_cons_succ, i64_w, i32_w]
    rfl
  refine one_ (i := 13) (N := some 54) #[yY,yY,yY,yY,yY,yY,yY,yY,yY,yY,yY,yY,yY,yY,nN,nN,nN,nN,nN] rfl rfl (by kernel_rfl) (by decide) (fun K hK => ?_)
  refine goes_ Tryd.func13 (by kernel_rfl) rfl #[.agg #[.int .i64 x.f0, .int .i64 x.f1, .bool x.f2, .slice G3 x.f3.length h3, .slice G4 x.f4.length h4], .agg #[.int .i64 x.f0, .int .i64 x.f1, .bool x.f2, .slice A5 x.f3.length c5, .slice A6 x.f4.length c6]] (by rfl) rfl rfl (by simp only [List.map_toArray, List.map_cons, List.map_nil]; rfl) ?_
  with_reducible refine (HSA.out V1 G3 h3 G4 h4 A5 c5 A6 c6 HG11.out HC11.out).mono ?_
  rintro e V2 ⟨rfl, hB12⟩
  refine ⟨_, rfl, ?_⟩
  have HB12 := Lib.hid (HB11.out.trans (hB12.mono HB11.out.size))
  have HU12 := Lib.hid (blk_below HU11.out hB12)
  have HY12 := Lib.hid (blk_below HY11.out hB12)
  clear hB12
  refine hK.out _ _ ⟨blk_cell (HU12.out) 0, blk_cell (HU12.out) 1, blk_cell (HU12.out) 2, blk_cell (HU12.out) 3, blk_cell (HU12.out) 4, blk_cell (HY12.out) 0, blk_cell (HY12.out) 1, blk_cell (HY12.out) 2, blk_cell (HY12.out) 3, blk_cell (HY12.out) 4⟩ (fun hHeld => ?_)
  clear hK K
  refine norm_ (a' := ?_) ?_ ?_
  rotate_left
  · show Act.put _ (some 54) _ = _
    simp only [Act.put, List.setIfInBounds_toArray, List.set_cons_zero, List.set_cons_succ, i64_w, i32_w]
    rfl
  refine pure_ (i := 14) (N := some 55) (v := ?_) (a' := ?_) #[yY,yY,yY,yY,yY,yY,yY,yY,yY,yY,yY,yY,yY,yY,yY,nN,nN,nN,nN] rfl rfl (by kernel_rfl) (fun _ _ _ h => h) (Or.inl ⟨by rfl, ?_⟩) ?_ ?_
  rotate_left
  · intro w'
    go_simp
    with_reducible rfl
  rotate_left
  · simp only [Act.put, List.setIfInBounds_toArray, List.set_cons_zero, List.set_cons_succ, i64_w, i32_w]
    rfl
  refine pure_ (i := 15) (N := some 56) (v := ?_) (a' := ?_) #[yY,yY,yY,yY,yY,yY,yY,yY,yY,yY,yY,yY,yY,yY,yY,yY,nN,nN,nN] rfl rfl (by kernel_rfl) (fun _ _ _ h => h) (Or.inl ⟨by rfl, ?_⟩) ?_ ?_
  rotate_left
  · intro w'
    go_simp
    with_reducible rfl
  rotate_left
  · simp only [Act.put, List.setIfInBounds_toArray, List.set_cons_zero, List.set_cons_succ, i64_w, i32_w]
    rfl
  refine one_ (i := 16) (N := some 57) #[yY,yY,yY,yY,yY,yY,yY,yY,yY,yY,yY,yY,yY,yY,yY,yY,yY,nN,nN] rfl rfl (by kernel_rfl) (by decide) (fun K hK => ?_)
  refine goes_ Tryd.func10 (by kernel_rfl) rfl #[] (by rfl) rfl rfl (by simp) ?_
  with_reducible refine (works_any V2).mono ?_
  rintro e V3 ⟨rfl, hB13⟩
  refine ⟨_, rfl, ?_⟩
  have HB13 := Lib.hid (HB12.out.trans (hB13.mono HB12.out.size))
  have HU13 := Lib.hid (blk_below HU12.out hB13)
  have HY13 := Lib.hid (blk_below HY12.out hB13)
  clear hB13
  refine hK.out _ _ ⟨blk_cell (HU13.out) 0, blk_cell (HU13.out) 1, blk_cell (HU13.out) 2, blk_cell (HU13.out) 3, blk_cell (HU13.out) 4, blk_cell (HY13.out) 0, blk_cell (HY13.out) 1, blk_cell (HY13.out) 2, blk_cell (HY13.out) 3, blk_cell (HY13.out) 4⟩ (fun hHeld => ?_)
  clear hK K
  refine norm_ (a' := ?_) ?_ ?_
  rotate_left
  · show Act.put _ (some 57) _ = _
    simp only [Act.put, List.setIfInBounds_toArray, List.set_cons_zero, List.set_cons_succ, i64_w, i32_w]
    rfl
  refine pure_ (i := 17) (N := some 58) (v := ?_) (a' := ?_) #[yY,yY,yY,yY,yY,yY,yY,yY,yY,yY,yY,yY,yY,yY,yY,yY,yY,yY,nN] rfl rfl (by kernel_rfl) (fun _ _ _ h => h) (Or.inl ⟨by rfl, ?_⟩) ?_ ?_
  rotate_left
  · intro w'
    go_simp
    with_reducible rfl
  rotate_left
  · simp only [Act.put, List.setIfInBounds_toArray, List.set_cons_zero, List.set_cons_succ, i64_w, i32_w]
    rfl
  refine pure_ (i := 18) (N := some 2) (v := ?_) (a' := ?_) #[yY,yY,yY,yY,yY,yY,yY,yY,yY,yY,yY,yY,yY,yY,yY,yY,yY,yY,yY] rfl rfl (by kernel_rfl) (fun _ _ _ h => h) (Or.inl ⟨by rfl, ?_⟩) ?_ ?_
  rotate_left
  · intro w'
    go_simp
    with_reducible rfl
  rotate_left
  · simp only [Act.put, List.setIfInBounds_toArray, List.set_cons_zero, List.set_cons_succ, i64_w, i32_w]
    rfl
  refine done_ (by kernel_rfl) ?_
  go_wp2
  go_ret
  exact ⟨rfl, HB13.out⟩
end Go.Proofs.YtejbpbdlolehnaaDoor.Ber
