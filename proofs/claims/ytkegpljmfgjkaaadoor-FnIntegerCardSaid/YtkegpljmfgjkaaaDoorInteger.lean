/- The law FnInteger walked: impl.EncodeInteger and spec.Whole give the number's bytes, impl.ParseInteger reads them back. No condition but the parameter's own type. -/
import Derived.Test.YtkegpljmfgjkaaaDoorParseInt
namespace Go.Proofs.YtkegpljmfgjkaaaDoor.Ber
open Go.RowKit Go.Proofs.YtkegpljmfgjkaaaDoorW.PrintWords Go.Proofs.YtkegpljmfgjkaaaDoor.Buf Go.Proofs.YtkegpljmfgjkaaaDoor.Pk Go.Proofs.YtkegpljmfgjkaaaDoor.Num
set_option linter.unusedVariables false
set_option linter.unusedSimpArgs false

theorem uv_be (m : Nat) : ∀ x : Int, uv (be x m) = x % 256 ^ m := by
  induction m with
  | zero => intro x; simp [be, uv]
  | succ m ih =>
    intro x
    rw [be_snoc, uv_snoc, ih, Int.pow_succ]
    have h1 := Int.mul_ediv_add_emod (x / 256) (256 ^ m)
    have h2 := Int.mul_ediv_add_emod x (256 ^ m * 256)
    have h3 : x / (256 ^ m * 256) = x / 256 / 256 ^ m := by rw [Int.mul_comm (256 ^ m) 256, Int.ediv_ediv_of_nonneg (by omega)]
    have h4 := Int.mul_ediv_add_emod x 256
    rw [h3] at h2
    have h5 : 256 ^ m * 256 * (x / 256 / 256 ^ m) = 256 * (256 ^ m * (x / 256 / 256 ^ m)) := by rw [Int.mul_comm (256 ^ m) 256, Int.mul_assoc]
    omega

theorem wl_in (k : Nat) : ∀ n : Int, -(128 * 256 ^ k) ≤ n → n < 128 * 256 ^ k → -(128 * 256 ^ (wl n - 1)) ≤ n ∧ n < 128 * 256 ^ (wl n - 1) := by
  induction k with
  | zero =>
    intro n h0 h1
    rw [wl_small (by omega)]
    simp only [Nat.sub_self, Int.pow_zero]
    omega
  | succ k ih =>
    intro n h0 h1
    by_cases hs : -128 ≤ n ∧ n ≤ 127
    · rw [wl_small hs]
      simp only [Nat.sub_self, Int.pow_zero]
      omega
    · rw [wl_great hs]
      rw [Int.pow_succ] at h0 h1
      have := ih (n / 256) (by omega) (by omega)
      have hp := wl_pos (n / 256)
      have e : wl (n / 256) + 1 - 1 = (wl (n / 256) - 1) + 1 := by omega
      rw [e, Int.pow_succ]
      omega

theorem sv_whole (n : Int) (h : -9223372036854775808 ≤ n ∧ n ≤ 9223372036854775807) : sv (whole n) = n := by
  have hi := wl_in 7 n (by omega) (by omega)
  have hp := wl_pos n
  unfold sv whole
  rw [uv_be, be_length]
  obtain ⟨m, hm⟩ : ∃ m, wl n = m + 1 := ⟨wl n - 1, by omega⟩
  rw [hm] at hi ⊢
  simp only [Nat.add_sub_cancel] at hi ⊢
  rw [Int.pow_succ]
  have hpos : (0 : Int) < 256 ^ m := Int.pow_pos (by omega)
  obtain ⟨M, hM⟩ : ∃ M : Int, M = 256 ^ m := ⟨_, rfl⟩
  rw [← hM] at hi hpos ⊢
  clear hM hm
  by_cases h0 : 0 ≤ n
  · rw [Int.emod_eq_of_lt h0 (by omega), if_pos (by omega)]
  · have e : n % (M * 256) = n + M * 256 := by rw [← Int.add_emod_right, Int.emod_eq_of_lt (by omega) (by omega)]
    rw [e, if_neg (by omega)]
    omega

theorem whole_len (n : Int) (h : -9223372036854775808 ≤ n ∧ n ≤ 9223372036854775807) : 1 ≤ (whole n).length ∧ (whole n).length ≤ 8 := by
  unfold whole
  rw [be_length]
  exact ⟨wl_pos n, wl_le8 n h⟩

/-- what a byte row's fresh copy reads as -/
def Row8 (xs : List Int) (w : World) (e : Ending) (w' : World) : Prop :=
  ∃ v, e = .returned v ∧ B8.R 5 w' w.heap.size (fun _ => True) v xs ∧ Below w.heap.size w w'

theorem Parts.shelf {w : World} {base : Nat} {ok : Nat → Prop} {b : Nat} {x : Pk} {db : Nat} {v bv cv : Value} (h : Parts w base ok b x db v bv cv) : Lib.IsBuffer 233 5 base db (nums .u8 x.data) w := by
  obtain ⟨lr, hb⟩ := h.hd
  exact ⟨h.led, v, lr, hb, by rw [nums_length]; exact int_own h.rv, row_ne ⟨lr, hb⟩ (int_own h.rv)⟩

set_option maxHeartbeats 3200000 in
set_option maxRecDepth 100000 in
theorem encInteger_any (n : Int) (w : World) (hn : -9223372036854775808 ≤ n ∧ n ≤ 9223372036854775807) :
    Calls Tryd.prog 31 #[.int .i64 n] w (Row8 (whole n) w) := by
  go_enter Tryd.func31, Tryd.ntmps31
  go_wp2_with (go_at_call 99; refine (newInt_i64 _ _ _ n _ _ hn).mono ?_)
  rintro e W1 ⟨b, rfl, hI, hB1⟩
  obtain ⟨db, v, bv, cv, P⟩ := parts_of hI
  have c5' : W1.cell? ⟨b, 5, none⟩ = some (.pointer (some ⟨db, 0, none⟩)) := P.cell 5
  have hsh := Lib.hid (Tryd.Buffer_Bytes w.heap.size db (nums .u8 (whole n)) W1 P.shelf)
  have HB1 := Lib.hid hB1
  clear P hI hB1
  go_wp2_with (go_at_call 100; refine hsh.out.mono ?_; rintro e W2 ⟨v2, rfl, ho, k, rfl⟩)
  go_ret
  rw [nums_length] at ho
  exact ⟨v2, rfl, own_int ho (fun _ _ => trivial), pw_below_drewN HB1.out _⟩

set_option maxHeartbeats 3200000 in
set_option maxRecDepth 100000 in
theorem parseInteger_any (xs : List Int) (A : Option Addr) (c : Nat) (w : World) (hr : B8.C w A xs.length xs) (h1 : 1 ≤ xs.length) (h8 : xs.length ≤ 8) (hb : ∀ y ∈ xs, 0 ≤ y ∧ y < 256) :
    Calls Tryd.prog 30 #[.slice A xs.length c] w fun e w' => e = .returned (.tuple #[.int .i64 (sv xs), .bool true]) ∧ Below w.heap.size w w' := by
  obtain ⟨a, rfl, hc⟩ : ∃ a, A = some a ∧ ∀ i, i < xs.length → w.cell? (a.add i) = some (.int .u8 (xs.getD i 0)) := by
    obtain ⟨a, hA, _⟩ := Kd.at_int hr 0 (by omega) (by omega)
    refine ⟨a, hA, fun i hi => ?_⟩
    obtain ⟨a', hA', hc'⟩ := Kd.at_int hr (i : Int) (by omega) (by omega)
    rw [hA] at hA'
    obtain rfl := Option.some.inj hA'
    rw [Int.toNat_natCast] at hc'
    exact hc'
  have HCl := Lib.hid (Tryd.bytes_Clone_at a xs.length c xs w rfl (by omega) hc)
  have H8 := Lib.hid h8
  have HB := Lib.hid hb
  clear hb h1 h8 hc hr
  go_enter Tryd.func30, Tryd.ntmps30
  go_wp2_with (go_at_call 98; refine HCl.out.mono ?_; rintro e W1 ⟨v, rfl, ho, _, hB⟩)
  have hB1 := Lib.hid hB
  clear hB
  obtain ⟨A2, c2, rfl, hr2, _⟩ := own_new (own_int (xs := xs) (ok := fun _ => True) ho (fun _ _ => trivial))
  have HP := Lib.hid (parse_any xs A2 c2 W1 hr2 H8.out HB.out)
  clear ho hr2
  go_wp2_with (go_at_call 97; refine HP.out.mono ?_; rintro e W2 ⟨rfl, rfl⟩)
  go_region
  all_goals (
    go_wp2
    go_ret2
    exact ⟨rfl, below_drew hB1.out⟩)

set_option maxHeartbeats 6400000 in
set_option maxRecDepth 100000 in
theorem fnInteger_any (n : Int) (w : World) (hn : -9223372036854775808 ≤ n ∧ n ≤ 9223372036854775807) :
    Calls Tryd.prog 4 #[.int .i64 n] w fun e w' => e = .returned (.bool true) ∧ Below w.heap.size w w' := by
  have hwl := whole_len n hn
  have hsv := sv_whole n hn
  go_enter Tryd.func4, Tryd.ntmps4
  go_wp2_with (go_at_call 29; refine (whole_any n hn _).mono ?_; rintro e W1 ⟨v1, rfl, hR1, hB1⟩)
  obtain ⟨A1, c1, rfl, hr1, _⟩ := own_new hR1
  have HP := Lib.hid (parseInteger_any (whole n) A1 c1 W1 hr1 hwl.1 hwl.2 (be_range _ _))
  have HO1 := Lib.hid (int_own hR1)
  have HB1 := Lib.hid hB1
  have HN := Lib.hid hn
  clear hR1 hr1 hB1 hn hwl
  rw [hsv] at HP
  clear hsv
  go_wp2_with (go_at_call 30; refine HP.out.mono ?_; rintro e W2 ⟨rfl, hB2⟩)
  have HB2 := Lib.hid hB2
  clear hB2
  obtain ⟨s, hs⟩ : ∃ s, s = strOfNums (whole n) := ⟨_, rfl⟩
  have hcv2 : (convert 22 9 (.slice A1 (whole n).length c1)).run Tryd.prog W2.drew = .ok (.string s) W2.drew := by
    rw [hs]
    exact own_string Tryd.underlying22 Tryd.underlying5 Tryd.underlying9 (pw_own_below HO1.out (below_drew HB2.out))
  have HS := Lib.hid hs
  clear hs
  go_region_with (first
    | (go_at_call 31
       refine (encInteger_any n _ HN.out).mono ?_
       rintro e W3 ⟨v3, rfl, hR3, hB3'⟩
       have hB3 : Below W2.heap.size W2 W3 := ⟨hB3'.os, hB3'.tape, hB3'.output, hB3'.size, hB3'.block⟩
       have hcv3 : (convert 22 9 v3).run Tryd.prog W3 = .ok (.string s) W3 := by
         rw [HS.out]
         exact own_string Tryd.underlying22 Tryd.underlying5 Tryd.underlying9 (int_own hR3)
       have hcv4 : (convert 22 9 (.slice A1 (whole n).length c1)).run Tryd.prog W3 = .ok (.string s) W3 := by
         rw [HS.out]
         exact own_string Tryd.underlying22 Tryd.underlying5 Tryd.underlying9 (pw_own_below (pw_own_below HO1.out HB2.out) hB3)
       have HB3 := Lib.hid hB3
       clear hB3 hB3' hR3)
    | (go_at_call 26
       refine (works_any _).mono ?_
       rintro e W4 ⟨rfl, hB4⟩
       have HB4 := Lib.hid hB4
       clear hB4))
  all_goals (
    go_wp2
    go_ret
    exact ⟨rfl, ((HB1.out.trans (HB2.out.mono HB1.out.size)).trans (HB3.out.mono (by have := HB1.out.size; have := HB2.out.size; omega))).trans (HB4.out.mono (by have := HB1.out.size; have := HB2.out.size; have := HB3.out.size; omega))⟩)
end Go.Proofs.YtkegpljmfgjkaaaDoor.Ber
