/- Parts of the proof of one law, in the order in which they build. The header of a packet, whole or cut. · (*io.LimitedReader).Read. · io.ReadAll over a LimitedReader. · Packets of the package as data: what impl.packet gives, in plain Lean; and the kids of a packet that is the call's own. · Packets that are put together step by step: where each stands in memory (At), a child more (app_at), a new one (encode_at, string_at). · ber.Encode of a string of bytes: its data are the string. · ber.ParseInt64 of at most eight bytes: the two's complement number that they are. -/
import Derived.Test.YteockihoefbmdaaGreatDoorEty1
import Derived.Test.YteockihoefbmdaaGreatDoorEty2
import Derived.Test.YteockihoefbmdaaGreatDoorEty3
import Derived.Test.YteockihoefbmdaaGreatDoorEty4
import Derived.Test.YteockihoefbmdaaGreatDoorEty5
import Derived.Test.YteockihoefbmdaaGreatDoorEty6
import Derived.Test.YteockihoefbmdaaGreatDoorEty7
namespace Go.Proofs.YteockihoefbmdaaGreatDoor.Ber
open Go.RowKit Go.Proofs.YteockihoefbmdaaGreatDoorW.PrintWords Go.Proofs.YteockihoefbmdaaGreatDoorW.PrintLast Go.Proofs.YteockihoefbmdaaGreatDoor.Buf Go.Proofs.YteockihoefbmdaaGreatDoor.Pk Go.Proofs.YteockihoefbmdaaGreatDoor.Tree
set_option linter.unusedVariables false
set_option linter.unusedSimpArgs false
theorem results_cttt {P : Program} {fn : Func} {p u q r : Tmp} {ty : TypeId} (h : fn.results = #[.cell p ty, .tmp u, .tmp q, .tmp r]) (tmps : Array Value) (w : World) (g : Nat) (t : TypeId) (cs : Array Value) (fr : Nat × Nat) (d : TypeDesc)
    (hp : tmps.getD p undef = .pointer (some ⟨g, 0, none⟩)) (hg : w.heap[g]? = some (.cells cs t fr))
    (hu : P.underlying ty = some d) (hd : (match d with | .struct _ | .array _ _ => true | _ => false) = true) (hi : (P.info? ty).map (·.size) = some cs.size) :
    (results fn tmps).run P w = .ok (.tuple #[.agg cs, tmps.getD u undef, tmps.getD q undef, tmps.getD r undef]) w := by
  have hp' : tmps[p]?.getD undef = .pointer (some ⟨g, 0, none⟩) := by simpa using hp
  simp [results, h, hp', asAddr, run_loadVar_row w g t ty cs fr d hg hu hd hi]
theorem ty_bit (b : Int) : b / 32 % 2 * 32 = if decide (b / 32 % 2 = 1) = true then 32 else 0 := by
  by_cases h : b / 32 % 2 = 1
  · rw [h, if_pos (by simp)]; rfl
  · rw [if_neg (by simpa using h)]; omega
theorem idB_bound {l : List Int} {r : Int × Bool × Int × Nat} (h : idB l = some r) : 1 ≤ r.2.2.2 := (idB_app [] h).2.1
theorem lenB_bound {l : List Int} {r : Int × Nat} (h : lenB l = some r) (hx : ∀ x ∈ l, 0 ≤ x ∧ x < 256) : 0 ≤ r.1 ∧ r.1 < 4294967296 ∧ r.2 ≤ 5 := by
  cases l with
  | nil => cases h
  | cons b l =>
    rw [lenB] at h
    have hb := hx b List.mem_cons_self
    by_cases h1 : b < 128
    · rw [if_pos h1] at h
      cases h
      exact ⟨hb.1, by simp only; omega, by simp only; omega⟩
    rw [if_neg h1] at h
    by_cases h2 : b = 128 ∨ 132 < b
    · rw [if_pos h2] at h; cases h
    rw [if_neg h2] at h
    by_cases h3 : (b - 128).toNat ≤ l.length
    · rw [if_pos h3] at h
      cases h
      have := beN_take_lt l (fun x hx' => hx x (List.mem_cons_of_mem _ hx')) (b - 128).toNat h3
      have h7 : 256 ^ (b - 128).toNat ≤ 256 ^ 4 := Nat.pow_le_pow_right (by decide) (by omega)
      have h8 : (256 ^ 4 : Nat) = 4294967296 := by decide
      exact ⟨this.1, by simp only; omega, by simp only; omega⟩
    · rw [if_neg h3] at h; cases h
theorem tagB_le : ∀ (l : List Int) (acc : Int) (n : Nat) (r : Int × Nat), (∀ x ∈ l, 0 ≤ x) → TagI n acc → tagB l acc n = some r → r.2 ≤ 4 ∧ 0 ≤ r.1 ∧ r.1 < 268435456
  | [], _, _, _, _, _, h => by cases h
  | b :: l, acc, n, r, hx, hi, h => by
    rw [tagB] at h
    by_cases h1 : 2097152 ≤ acc
    · rw [if_pos h1] at h; cases h
    by_cases h2 : n = 0 ∧ b % 128 = 0
    · rw [if_neg h1, if_pos h2] at h; cases h
    rw [if_neg h1, if_neg h2] at h
    have h4 := hi.le (by omega)
    have h5 := hi.nonneg
    by_cases h3 : b < 128
    · rw [if_pos h3] at h
      cases h
      exact ⟨by simp only; omega, by simp only; omega, by simp only; omega⟩
    · rw [if_neg h3] at h
      exact tagB_le l _ _ r (fun x hx' => hx x (List.mem_cons_of_mem _ hx')) (hi.step (by omega) h2) h
theorem idB_all {l : List Int} {r : Int × Bool × Int × Nat} (h : idB l = some r) (hx : ∀ x ∈ l, 0 ≤ x ∧ x < 256) : 0 ≤ r.1 ∧ r.1 ≤ 3 ∧ 0 ≤ r.2.2.1 ∧ r.2.2.1 < 268435456 ∧ r.2.2.2 ≤ 5 := by
  cases l with
  | nil => cases h
  | cons b l =>
    have hb := hx b List.mem_cons_self
    rw [idB] at h
    by_cases h1 : b % 32 < 31
    · rw [if_pos h1] at h
      cases h
      exact ⟨by simp only; omega, by simp only; omega, by simp only; omega, by simp only; omega, by simp only; omega⟩
    · rw [if_neg h1, Option.map_eq_some_iff] at h
      obtain ⟨t, ht, rfl⟩ := h
      have := tagB_le l 0 0 t (fun x hx' => (hx x (List.mem_cons_of_mem _ hx')).1) (.inl ⟨rfl, rfl⟩) ht
      exact ⟨by simp only; omega, by simp only; omega, by simp only; omega, by simp only; omega, by simp only; omega⟩
theorem hdrB_all {l : List Int} {r : Int × Bool × Int × Int × Nat} (h : hdrB l = some r) (hx : ∀ x ∈ l, 0 ≤ x ∧ x < 256) : 0 ≤ r.1 ∧ r.1 ≤ 3 ∧ 0 ≤ r.2.2.1 ∧ r.2.2.1 < 268435456 ∧ 0 ≤ r.2.2.2.1 ∧ r.2.2.2.1 < 4294967296 ∧ r.2.2.2.2 ≤ 10 := by
  unfold hdrB at h
  rw [Option.bind_eq_some_iff] at h
  obtain ⟨i, hi, h⟩ := h
  rw [Option.map_eq_some_iff] at h
  obtain ⟨n, hn, rfl⟩ := h
  have h1 := idB_all hi hx
  have h2 := lenB_bound hn (fun x hx' => hx x (List.mem_of_mem_drop hx'))
  exact ⟨h1.1, h1.2.1, h1.2.2.1, h1.2.2.2.1, h2.1, h2.2.1, by simp only; omega⟩
section
variable {T F : Nat} {r : Value} {g B : Nat} {va ua : Addr} {Q : World → List Int → Prop}
theorem readId_any (R : RdSpec T F r g B va ua Q) (W : World) (l m : List Int) (cls tag : Int) (c : Bool) (k : Nat) (hQ : Q W l) (hB : B ≤ W.heap.size) (h : idB (l ++ m) = some (cls, c, tag, k)) (hx : ∀ x ∈ l, 0 ≤ x ∧ x < 256) :
    Calls Tryz.prog 142 #[.iface T r] W fun e w' => (k ≤ l.length → e = .returned (.tuple #[.agg #[.int .u8 (cls * 64), .int .u8 (if c = true then 32 else 0), .int .u64 tag], .int .i64 k, .nilIface]) ∧ Q w' (l.drop k)) ∧
      (l.length < k → (∃ q v, e = .returned (.tuple #[.agg #[.int .u8 0, .int .u8 0, .int .u64 0], .int .i64 q, (.iface 248 (.pointer (some v)))]) ∧ (v = va ∨ v = ua)) ∧ Q w' []) ∧ Only (fun b => b = g) W w' := by
  cases l with
  | nil =>
    have hk := idB_bound h
    refine (readId_none R W hQ hB).mono ?_
    rintro e w' ⟨he, hq, ho⟩
    exact ⟨fun h => absurd h (by simp only [List.length_nil]; exact Nat.not_le.2 hk), fun _ => ⟨⟨0, va, he, .inl rfl⟩, hq⟩, ho⟩
  | cons b l =>
    have hb := hx b List.mem_cons_self
    rw [List.cons_append, idB] at h
    by_cases h1 : b % 32 < 31
    · rw [if_pos h1] at h
      injection h with h
      injection h with e1 h
      injection h with e2 h
      injection h with e3 e4
      refine (readId_short R W b l hQ hB hb.1 hb.2 h1).mono ?_
      rintro e w' ⟨he, hq, ho⟩
      refine ⟨fun _ => ⟨?_, ?_⟩, fun h => absurd h (by rw [← e4]; simp), ho⟩
      · rw [he, ← e1, ← e2, ← e3, ← e4, ty_bit]; rfl
      · rw [← e4]; exact hq
    · rw [if_neg h1, Option.map_eq_some_iff] at h
      obtain ⟨t, ht, h⟩ := h
      injection h with e1 h
      injection h with e2 h
      injection h with e3 e4
      refine (readId_high R W b l m t.1 t.2 hQ hB hb.1 hb.2 (by omega) ht (fun x hx' => hx x (List.mem_cons_of_mem _ hx'))).mono ?_
      rintro e w' ⟨h2, h3, ho⟩
      refine ⟨fun h => ?_, fun h => ?_, ho⟩
      · obtain ⟨he, hq⟩ := h2 (by rw [← e4] at h; simpa using h)
        refine ⟨?_, ?_⟩
        · rw [he, ← e1, ← e2, ← e3, ← e4, ty_bit]
        · rw [← e4]; exact hq
      · obtain ⟨⟨q, he⟩, hq⟩ := h3 (by rw [← e4] at h; simpa using h)
        exact ⟨⟨q, ua, he, .inr rfl⟩, hq⟩
theorem readLen_any (R : RdSpec T F r g B va ua Q) (W : World) (l m : List Int) (n : Int) (k : Nat) (hQ : Q W l) (hB : B ≤ W.heap.size) (h : lenB (l ++ m) = some (n, k)) (hx : ∀ x ∈ l, 0 ≤ x ∧ x < 256) :
    Calls Tryz.prog 143 #[.iface T r] W fun e w' => (k ≤ l.length → e = .returned (.tuple #[.int .i64 n, .int .i64 k, .nilIface]) ∧ Q w' (l.drop k)) ∧
      (l.length < k → (∃ q, e = .returned (.tuple #[.int .i64 0, .int .i64 q, (.iface 248 (.pointer (some ua)))])) ∧ Q w' []) ∧ Only (fun b => b = g) W w' := by
  cases l with
  | nil =>
    have hk : 1 ≤ k := (lenB_app [] h).2.1
    refine (readLen_none R W hQ hB).mono ?_
    rintro e w' ⟨he, hq, ho⟩
    exact ⟨fun h => absurd h (by simp only [List.length_nil]; exact Nat.not_le.2 hk), fun _ => ⟨⟨0, he⟩, hq⟩, ho⟩
  | cons b l =>
    have hb := hx b List.mem_cons_self
    have hx' : ∀ x ∈ l, 0 ≤ x ∧ x < 256 := fun x hx' => hx x (List.mem_cons_of_mem _ hx')
    rw [List.cons_append, lenB] at h
    by_cases h1 : b < 128
    · rw [if_pos h1] at h
      injection h with h
      injection h with e1 e2
      refine (readLen_short R W b l hQ hB hb.1 h1).mono ?_
      rintro e w' ⟨he, hq, ho⟩
      refine ⟨fun _ => ⟨?_, ?_⟩, fun h => absurd h (by rw [← e2]; simp), ho⟩
      · rw [he, ← e1, ← e2]; rfl
      · rw [← e2]; exact hq
    rw [if_neg h1] at h
    by_cases h2 : b = 128 ∨ 132 < b
    · rw [if_pos h2] at h; cases h
    rw [if_neg h2] at h
    by_cases h3 : (b - 128).toNat ≤ (l ++ m).length
    · rw [if_pos h3] at h
      injection h with h
      injection h with e1 e2
      by_cases h4 : (b - 128).toNat ≤ l.length
      · have hl : (l.take (b - 128).toNat).length = (b - 128).toNat := by rw [List.length_take]; omega
        refine (readLen_long R W b (l.take (b - 128).toNat) (l.drop (b - 128).toNat) (by rwa [List.take_append_drop]) hB (by omega) (by omega) (by omega) (fun x hx2 => hx' x (List.mem_of_mem_take hx2))).mono ?_
        rintro e w' ⟨he, hq, ho⟩
        refine ⟨fun _ => ⟨?_, ?_⟩, fun h => absurd h (by rw [← e2]; simpa using h4), ho⟩
        · rw [he, ← e1, ← e2, hl, List.take_append_of_le_length h4]
        · rw [← e2]; exact hq
      · refine (readLen_cut R W b l (b - 128) hQ hB (by omega) (by omega) (by omega) hx').mono ?_
        rintro e w' ⟨⟨q, _, he⟩, hq, ho⟩
        exact ⟨fun h => absurd h (by rw [← e2]; simpa using h4), fun _ => ⟨⟨q, he⟩, hq⟩, ho⟩
    · rw [if_neg h3] at h; cases h
set_option maxHeartbeats 3200000 in
set_option maxRecDepth 100000 in
theorem header_any (R : RdSpec T F r g B va ua Q) (W : World) (l m : List Int) (cls tag n : Int) (c : Bool) (k : Nat) (hQ : Q W l) (hB : B ≤ W.heap.size) (h : hdrB (l ++ m) = some (cls, c, tag, n, k)) (hx : ∀ x ∈ l ++ m, 0 ≤ x ∧ x < 256) :
    Calls Tryz.prog 122 #[.iface T r] W fun e w' => (k ≤ l.length → e = .returned (.tuple #[.agg #[.int .u8 (cls * 64), .int .u8 (if c = true then 32 else 0), .int .u64 tag], .int .i64 n, .int .i64 k, .nilIface]) ∧ Q w' (l.drop k)) ∧
      (l.length < k → (∃ q v, e = .returned (.tuple #[.agg #[.int .u8 0, .int .u8 0, .int .u64 0], .int .i64 0, .int .i64 q, (.iface 248 (.pointer (some v)))]) ∧ (v = va ∨ v = ua)) ∧ Q w' []) ∧ Only (fun b => b = g) W w' := by
  unfold hdrB at h
  rw [Option.bind_eq_some_iff] at h
  obtain ⟨⟨cls', c', tag', k1⟩, hi, h⟩ := h
  rw [Option.map_eq_some_iff] at h
  obtain ⟨⟨n', k2⟩, hl, h⟩ := h
  injection h with e1 h
  injection h with e2 h
  injection h with e3 h
  injection h with e4 e5
  simp only at e1 e2 e3 e4 e5 hl
  subst e1 e2 e3 e4 e5
  have hk1 := (idB_app [] hi).2
  have hk2 := (lenB_app [] hl).2
  have hn := lenB_bound hl (fun x hx' => hx x (List.mem_of_mem_drop hx'))
  simp only at hk1 hk2 hn
  have hxl : ∀ x ∈ l, 0 ≤ x ∧ x < 256 := fun x hx' => hx x (List.mem_append_left _ hx')
  obtain ⟨W0, hW0⟩ : ∃ W0, W0 = (W.alloc (.cells #[.int .u8 0, .int .u8 0, .int .u64 0] 82)).alloc (.cells #[.int .u8 0, .int .u8 0, .int .u64 0] 82) := ⟨_, rfl⟩
  have hb0 : Below W.heap.size W W0 := by rw [hW0]; exact below_alloc (below_alloc (Below.refl _ _) _) _
  have hX0 : W0.heap[W.heap.size]? = some (.cells #[.int .u8 0, .int .u8 0, .int .u64 0] 82 (0, 0)) := by rw [hW0]; exact blk_alloc (blk_new _ _) _
  have hY0 : W0.heap[W.heap.size + 1]? = some (.cells #[.int .u8 0, .int .u8 0, .int .u64 0] 82 (0, 0)) := by
    have := blk_new (W.alloc (.cells #[.int .u8 0, .int .u8 0, .int .u64 0] 82)) (.cells #[.int .u8 0, .int .u8 0, .int .u64 0] 82)
    have e : (W.alloc (.cells #[.int .u8 0, .int .u8 0, .int .u64 0] 82)).heap.size = W.heap.size + 1 := by simp
    rw [e, ← hW0] at this
    exact this
  have hgs : g < W.heap.size := Nat.lt_of_lt_of_le R.lt hB
  obtain ⟨i1, hi1⟩ : ∃ i1, i1 = cls' * 64 := ⟨_, rfl⟩
  obtain ⟨i2, hi2⟩ : ∃ i2, i2 = (if c' = true then (32 : Int) else 0) := ⟨_, rfl⟩
  obtain ⟨i3, hi3⟩ : ∃ i3, i3 = tag' := ⟨_, rfl⟩
  have HKQ : Hid (∀ W5 W' n, Q W5 n → W.heap.size ≤ W5.heap.size → (∀ i, i < W.heap.size → W'.heap[i]? = W5.heap[i]?) → Q W' n) := Lib.hid (fun W5 W' n hq _ h => R.keep W5 W' n hq (fun i hi => h i (Nat.lt_of_lt_of_le hi hB)))
  have HI := (readId_any R W0 l m cls' tag' c' k1 (R.keep W W0 _ hQ (fun i hi => hb0.block i (Nat.lt_of_lt_of_le hi hB))) (Nat.le_trans hB hb0.size) hi hxl)
  rw [← hi1, ← hi2, ← hi3] at HI
  rw [← hi1, ← hi2, ← hi3]
  clear hi1 hi2 hi3
  by_cases hc1 : k1 ≤ l.length
  · have HA : Hid (Calls Tryz.prog 142 #[.iface T r] W0 fun e w' => e = .returned (.tuple #[.agg #[.int .u8 i1, .int .u8 i2, .int .u64 i3], .int .i64 k1, .nilIface]) ∧ Q w' (l.drop k1) ∧ w'.heap[W.heap.size]? = some (.cells #[.int .u8 0, .int .u8 0, .int .u64 0] 82 (0, 0)) ∧ w'.heap[W.heap.size + 1]? = some (.cells #[.int .u8 0, .int .u8 0, .int .u64 0] 82 (0, 0)) ∧ Only (fun b => b = g) W w') := Lib.hid (by
      refine HI.mono ?_
      rintro e w' ⟨h1, _, ho⟩
      obtain ⟨he, hq⟩ := h1 hc1
      exact ⟨he, hq, (ho.block _ (blk_lt hX0) (by omega)).trans hX0, (ho.block _ (blk_lt hY0) (by omega)).trans hY0, (Only.of_below (fun b => b = g) hb0).trans ho (fun i _ h => h)⟩)
    rw [List.drop_append_of_le_length hc1] at hl
    obtain ⟨t1, ht1⟩ : ∃ t1, t1 = (k1 : Int) := ⟨_, rfl⟩
    rw [← ht1] at HA
    have ht0 : 0 ≤ t1 := by omega
    have htb : t1 < 8388608 := by
      have := idB_all hi hx
      simp only at this
      omega
    by_cases hc2 : k1 + k2 ≤ l.length
    · have HL : Hid (∀ W' : World, Q W' (l.drop k1) → W.heap.size ≤ W'.heap.size → W'.heap[W.heap.size]? = some (.cells #[.int .u8 i1, .int .u8 i2, .int .u64 i3] 82 (0, 0)) → W'.heap[W.heap.size + 1]? = some (.cells #[.int .u8 i1, .int .u8 i2, .int .u64 i3] 82 (0, 0)) → Only (fun b => b = g) W W' → Calls Tryz.prog 143 #[.iface T r] W' fun e w' => e = .returned (.tuple #[.int .i64 n', .int .i64 k2, .nilIface]) ∧ Q w' (l.drop (k1 + k2)) ∧
          w'.heap[W.heap.size]? = some (.cells #[.int .u8 i1, .int .u8 i2, .int .u64 i3] 82 (0, 0)) ∧ w'.heap[W.heap.size + 1]? = some (.cells #[.int .u8 i1, .int .u8 i2, .int .u64 i3] 82 (0, 0)) ∧ Only (fun b => b = g) W w') := Lib.hid (fun W' hq hs hX hY ho => by
        refine (readLen_any R W' (l.drop k1) m n' k2 hq (Nat.le_trans hB hs) hl (fun x hx' => hxl x (List.mem_of_mem_drop hx'))).mono ?_
        rintro e w' ⟨h1, _, ho'⟩
        obtain ⟨he, hq'⟩ := h1 (by rw [List.length_drop]; omega)
        rw [List.drop_drop] at hq'
        exact ⟨he, hq', (ho'.block _ (blk_lt hX) (by omega)).trans hX, (ho'.block _ (blk_lt hY) (by omega)).trans hY, ho.trans ho' (fun i _ h => h)⟩)
      obtain ⟨t2, ht2⟩ : ∃ t2, t2 = (k2 : Int) := ⟨_, rfl⟩
      rw [← ht2] at HL
      have ht3 : 0 ≤ t2 := by omega
      have ht4 : t2 ≤ 5 := by omega
      have hn0 : 0 ≤ n' := hn.1
      have hn1 : n' < 4294967296 := hn.2.1
      have d1 : (n' == -1) = false := by simp; omega
      have d2 : decide (n' < -1) = false := decide_eq_false (by omega)
      have HC : Hid (k1 + k2 ≤ l.length) := Lib.hid hc2
      have HT : Hid (t1 + t2 = ((k1 + k2 : Nat) : Int)) := Lib.hid (by push_cast; omega)
      have HW0 := Lib.hid hW0
      clear hQ R hB hb0 hX0 hY0 hW0 HI hi hl hk1 hk2 hn hxl hx hc1 hc2 ht1 ht2
      go_enter Tryz.func122, Tryz.ntmps122
      go_upto_region 3 with fail
      rw [← HW0.out]
      go_wp2_with (first
        | (go_at_call 142
           with_reducible refine HA.out.mono ?_
           rintro e W6 ⟨rfl, hQ6, hX6, hY6, hO6⟩
           have HQW6 := Lib.hid hQ6
           have HXW6 := Lib.hid hX6
           have HYW6 := Lib.hid hY6
           have HOW6 := Lib.hid hO6
           have xW60 : W6.cell? ⟨W.heap.size, 0, none⟩ = some (.int .u8 0) := blk_cell hX6 0
           have xW61 : W6.cell? ⟨W.heap.size, 1, none⟩ = some (.int .u8 0) := blk_cell hX6 1
           have xW62 : W6.cell? ⟨W.heap.size, 2, none⟩ = some (.int .u64 0) := blk_cell hX6 2
           have xW6f0 : W6.frozen? ⟨W.heap.size, 0, none⟩ = false := blk_frozen hX6 0
           have xW6f1 : W6.frozen? ⟨W.heap.size, 1, none⟩ = false := blk_frozen hX6 1
           have xW6f2 : W6.frozen? ⟨W.heap.size, 2, none⟩ = false := blk_frozen hX6 2
           have yW60 : W6.cell? ⟨W.heap.size + 1, 0, none⟩ = some (.int .u8 0) := blk_cell hY6 0
           have yW61 : W6.cell? ⟨W.heap.size + 1, 1, none⟩ = some (.int .u8 0) := blk_cell hY6 1
           have yW62 : W6.cell? ⟨W.heap.size + 1, 2, none⟩ = some (.int .u64 0) := blk_cell hY6 2
           have yW6f0 : W6.frozen? ⟨W.heap.size + 1, 0, none⟩ = false := blk_frozen hY6 0
           have yW6f1 : W6.frozen? ⟨W.heap.size + 1, 1, none⟩ = false := blk_frozen hY6 1
           have yW6f2 : W6.frozen? ⟨W.heap.size + 1, 2, none⟩ = false := blk_frozen hY6 2
           clear hQ6 hX6 hY6 hO6)
        | (go_at_call 143
           with_reducible refine (HL.out _ (HKQ.out W6 _ _ HQW6.out HOW6.out.size (fun i hi => by rw [Below.heap_setCell _ ⟨W.heap.size, 2, none⟩ _ i (by show i ≠ W.heap.size; omega), Below.heap_setCell _ ⟨W.heap.size, 1, none⟩ _ i (by show i ≠ W.heap.size; omega), Below.heap_setCell _ ⟨W.heap.size, 0, none⟩ _ i (by show i ≠ W.heap.size; omega), Below.heap_setCell _ ⟨W.heap.size + 1, 2, none⟩ _ i (by show i ≠ W.heap.size + 1; omega), Below.heap_setCell _ ⟨W.heap.size + 1, 1, none⟩ _ i (by show i ≠ W.heap.size + 1; omega), Below.heap_setCell _ ⟨W.heap.size + 1, 0, none⟩ _ i (by show i ≠ W.heap.size + 1; omega)])) (by simp; exact HOW6.out.size) (blk_set (blk_set (blk_set (blk_far (blk_far (blk_far HXW6.out (p := ⟨W.heap.size + 1, 0, none⟩) (by simp) (.int .u8 i1)) (p := ⟨W.heap.size + 1, 1, none⟩) (by simp) (.int .u8 i2)) (p := ⟨W.heap.size + 1, 2, none⟩) (by simp) (.int .u64 i3)) 0 (.int .u8 i1)) 1 (.int .u8 i2)) 2 (.int .u64 i3)) (blk_far (blk_far (blk_far (blk_set (blk_set (blk_set HYW6.out 0 (.int .u8 i1)) 1 (.int .u8 i2)) 2 (.int .u64 i3)) (p := ⟨W.heap.size, 0, none⟩) (by simp) (.int .u8 i1)) (p := ⟨W.heap.size, 1, none⟩) (by simp) (.int .u8 i2)) (p := ⟨W.heap.size, 2, none⟩) (by simp) (.int .u64 i3)) (((((((HOW6.out).setCell (a := ⟨W.heap.size + 1, 0, none⟩) (fun h => absurd h (by simp)) _).setCell (a := ⟨W.heap.size + 1, 1, none⟩) (fun h => absurd h (by simp)) _).setCell (a := ⟨W.heap.size + 1, 2, none⟩) (fun h => absurd h (by simp)) _).setCell (a := ⟨W.heap.size, 0, none⟩) (fun h => absurd h (by simp)) _).setCell (a := ⟨W.heap.size, 1, none⟩) (fun h => absurd h (by simp)) _).setCell (a := ⟨W.heap.size, 2, none⟩) (fun h => absurd h (by simp)) _)).mono ?_
           rintro e W7 ⟨rfl, hQ6, hX6, hY6, hO6⟩
           have HQW7 := Lib.hid hQ6
           have HXW7 := Lib.hid hX6
           have HYW7 := Lib.hid hY6
           have HOW7 := Lib.hid hO6
           have xW70 : W7.cell? ⟨W.heap.size, 0, none⟩ = some (.int .u8 i1) := blk_cell hX6 0
           have xW71 : W7.cell? ⟨W.heap.size, 1, none⟩ = some (.int .u8 i2) := blk_cell hX6 1
           have xW72 : W7.cell? ⟨W.heap.size, 2, none⟩ = some (.int .u64 i3) := blk_cell hX6 2
           have xW7f0 : W7.frozen? ⟨W.heap.size, 0, none⟩ = false := blk_frozen hX6 0
           have xW7f1 : W7.frozen? ⟨W.heap.size, 1, none⟩ = false := blk_frozen hX6 1
           have xW7f2 : W7.frozen? ⟨W.heap.size, 2, none⟩ = false := blk_frozen hX6 2
           have yW70 : W7.cell? ⟨W.heap.size + 1, 0, none⟩ = some (.int .u8 i1) := blk_cell hY6 0
           have yW71 : W7.cell? ⟨W.heap.size + 1, 1, none⟩ = some (.int .u8 i2) := blk_cell hY6 1
           have yW72 : W7.cell? ⟨W.heap.size + 1, 2, none⟩ = some (.int .u64 i3) := blk_cell hY6 2
           have yW7f0 : W7.frozen? ⟨W.heap.size + 1, 0, none⟩ = false := blk_frozen hY6 0
           have yW7f1 : W7.frozen? ⟨W.heap.size + 1, 1, none⟩ = false := blk_frozen hY6 1
           have yW7f2 : W7.frozen? ⟨W.heap.size + 1, 2, none⟩ = false := blk_frozen hY6 2
           clear hQ6 hX6 hY6 hO6))
      try simp only [Exit.inBlock, Exit.then]
      have hX7 := blk_set (blk_set (blk_set HXW7.out 0 (.int .u8 i1)) 1 (.int .u8 i2)) 2 (.int .u64 i3)
      refine bodyPost_ret (results_cttt (p := 2) (u := 3) (q := 4) (r := 5) rfl _ _ _ _ _ _ _ rfl hX7 Tryz.underlying82 rfl (by kernel_rfl)) rfl ⟨fun _ => ⟨?_, ?_⟩, fun h => absurd h (by have := HC.out; omega), ?_⟩
      · show Ending.returned (.tuple #[.agg #[.int .u8 i1, .int .u8 i2, .int .u64 i3], .int .i64 n', .int .i64 (t1 + t2), .nilIface]) = _
        rw [HT.out]
      · refine HKQ.out W7 _ _ HQW7.out HOW7.out.size (fun i hi => ?_)
        rw [Below.heap_setCell _ ⟨W.heap.size, 2, none⟩ _ i (by show i ≠ W.heap.size; omega), Below.heap_setCell _ ⟨W.heap.size, 1, none⟩ _ i (by show i ≠ W.heap.size; omega), Below.heap_setCell _ ⟨W.heap.size, 0, none⟩ _ i (by show i ≠ W.heap.size; omega)]
      · exact (((HOW7.out).setCell (a := ⟨W.heap.size, 0, none⟩) (fun h => absurd h (by simp)) _).setCell (a := ⟨W.heap.size, 1, none⟩) (fun h => absurd h (by simp)) _).setCell (a := ⟨W.heap.size, 2, none⟩) (fun h => absurd h (by simp)) _
    · have HL : Hid (∀ W' : World, Q W' (l.drop k1) → W.heap.size ≤ W'.heap.size → W'.heap[W.heap.size]? = some (.cells #[.int .u8 i1, .int .u8 i2, .int .u64 i3] 82 (0, 0)) → W'.heap[W.heap.size + 1]? = some (.cells #[.int .u8 i1, .int .u8 i2, .int .u64 i3] 82 (0, 0)) → Only (fun b => b = g) W W' → Calls Tryz.prog 143 #[.iface T r] W' fun e w' => ∃ q, e = .returned (.tuple #[.int .i64 0, .int .i64 q, (.iface 248 (.pointer (some ua)))]) ∧ Q w' [] ∧
          w'.heap[W.heap.size]? = some (.cells #[.int .u8 i1, .int .u8 i2, .int .u64 i3] 82 (0, 0)) ∧ w'.heap[W.heap.size + 1]? = some (.cells #[.int .u8 i1, .int .u8 i2, .int .u64 i3] 82 (0, 0)) ∧ Only (fun b => b = g) W w') := Lib.hid (fun W' hq hs hX hY ho => by
        refine (readLen_any R W' (l.drop k1) m n' k2 hq (Nat.le_trans hB hs) hl (fun x hx' => hxl x (List.mem_of_mem_drop hx'))).mono ?_
        rintro e w' ⟨_, h1, ho'⟩
        obtain ⟨⟨q, he⟩, hq'⟩ := h1 (by rw [List.length_drop]; omega)
        exact ⟨q, he, hq', (ho'.block _ (blk_lt hX) (by omega)).trans hX, (ho'.block _ (blk_lt hY) (by omega)).trans hY, ho.trans ho' (fun i _ h => h)⟩)
      have HC : Hid (l.length < k1 + k2) := Lib.hid (by omega)
      have HW0 := Lib.hid hW0
      clear hQ R hB hb0 hX0 hY0 hW0 HI hi hl hk1 hk2 hn hxl hx hc1 hc2 ht1
      go_enter Tryz.func122, Tryz.ntmps122
      go_upto_region 3 with fail
      rw [← HW0.out]
      go_wp2_with (first
        | (go_at_call 142
           with_reducible refine HA.out.mono ?_
           rintro e W6 ⟨rfl, hQ6, hX6, hY6, hO6⟩
           have HQW6 := Lib.hid hQ6
           have HXW6 := Lib.hid hX6
           have HYW6 := Lib.hid hY6
           have HOW6 := Lib.hid hO6
           have xW60 : W6.cell? ⟨W.heap.size, 0, none⟩ = some (.int .u8 0) := blk_cell hX6 0
           have xW61 : W6.cell? ⟨W.heap.size, 1, none⟩ = some (.int .u8 0) := blk_cell hX6 1
           have xW62 : W6.cell? ⟨W.heap.size, 2, none⟩ = some (.int .u64 0) := blk_cell hX6 2
           have xW6f0 : W6.frozen? ⟨W.heap.size, 0, none⟩ = false := blk_frozen hX6 0
           have xW6f1 : W6.frozen? ⟨W.heap.size, 1, none⟩ = false := blk_frozen hX6 1
           have xW6f2 : W6.frozen? ⟨W.heap.size, 2, none⟩ = false := blk_frozen hX6 2
           have yW60 : W6.cell? ⟨W.heap.size + 1, 0, none⟩ = some (.int .u8 0) := blk_cell hY6 0
           have yW61 : W6.cell? ⟨W.heap.size + 1, 1, none⟩ = some (.int .u8 0) := blk_cell hY6 1
           have yW62 : W6.cell? ⟨W.heap.size + 1, 2, none⟩ = some (.int .u64 0) := blk_cell hY6 2
           have yW6f0 : W6.frozen? ⟨W.heap.size + 1, 0, none⟩ = false := blk_frozen hY6 0
           have yW6f1 : W6.frozen? ⟨W.heap.size + 1, 1, none⟩ = false := blk_frozen hY6 1
           have yW6f2 : W6.frozen? ⟨W.heap.size + 1, 2, none⟩ = false := blk_frozen hY6 2
           clear hQ6 hX6 hY6 hO6)
        | (go_at_call 143
           with_reducible refine (HL.out _ (HKQ.out W6 _ _ HQW6.out HOW6.out.size (fun i hi => by rw [Below.heap_setCell _ ⟨W.heap.size, 2, none⟩ _ i (by show i ≠ W.heap.size; omega), Below.heap_setCell _ ⟨W.heap.size, 1, none⟩ _ i (by show i ≠ W.heap.size; omega), Below.heap_setCell _ ⟨W.heap.size, 0, none⟩ _ i (by show i ≠ W.heap.size; omega), Below.heap_setCell _ ⟨W.heap.size + 1, 2, none⟩ _ i (by show i ≠ W.heap.size + 1; omega), Below.heap_setCell _ ⟨W.heap.size + 1, 1, none⟩ _ i (by show i ≠ W.heap.size + 1; omega), Below.heap_setCell _ ⟨W.heap.size + 1, 0, none⟩ _ i (by show i ≠ W.heap.size + 1; omega)])) (by simp; exact HOW6.out.size) (blk_set (blk_set (blk_set (blk_far (blk_far (blk_far HXW6.out (p := ⟨W.heap.size + 1, 0, none⟩) (by simp) (.int .u8 i1)) (p := ⟨W.heap.size + 1, 1, none⟩) (by simp) (.int .u8 i2)) (p := ⟨W.heap.size + 1, 2, none⟩) (by simp) (.int .u64 i3)) 0 (.int .u8 i1)) 1 (.int .u8 i2)) 2 (.int .u64 i3)) (blk_far (blk_far (blk_far (blk_set (blk_set (blk_set HYW6.out 0 (.int .u8 i1)) 1 (.int .u8 i2)) 2 (.int .u64 i3)) (p := ⟨W.heap.size, 0, none⟩) (by simp) (.int .u8 i1)) (p := ⟨W.heap.size, 1, none⟩) (by simp) (.int .u8 i2)) (p := ⟨W.heap.size, 2, none⟩) (by simp) (.int .u64 i3)) (((((((HOW6.out).setCell (a := ⟨W.heap.size + 1, 0, none⟩) (fun h => absurd h (by simp)) _).setCell (a := ⟨W.heap.size + 1, 1, none⟩) (fun h => absurd h (by simp)) _).setCell (a := ⟨W.heap.size + 1, 2, none⟩) (fun h => absurd h (by simp)) _).setCell (a := ⟨W.heap.size, 0, none⟩) (fun h => absurd h (by simp)) _).setCell (a := ⟨W.heap.size, 1, none⟩) (fun h => absurd h (by simp)) _).setCell (a := ⟨W.heap.size, 2, none⟩) (fun h => absurd h (by simp)) _)).mono ?_
           rintro e W7 ⟨q, rfl, hQ6, hX6, hY6, hO6⟩
           have HQW7 := Lib.hid hQ6
           have HXW7 := Lib.hid hX6
           have HYW7 := Lib.hid hY6
           have HOW7 := Lib.hid hO6
           have xW70 : W7.cell? ⟨W.heap.size, 0, none⟩ = some (.int .u8 i1) := blk_cell hX6 0
           have xW71 : W7.cell? ⟨W.heap.size, 1, none⟩ = some (.int .u8 i2) := blk_cell hX6 1
           have xW72 : W7.cell? ⟨W.heap.size, 2, none⟩ = some (.int .u64 i3) := blk_cell hX6 2
           have xW7f0 : W7.frozen? ⟨W.heap.size, 0, none⟩ = false := blk_frozen hX6 0
           have xW7f1 : W7.frozen? ⟨W.heap.size, 1, none⟩ = false := blk_frozen hX6 1
           have xW7f2 : W7.frozen? ⟨W.heap.size, 2, none⟩ = false := blk_frozen hX6 2
           have yW70 : W7.cell? ⟨W.heap.size + 1, 0, none⟩ = some (.int .u8 i1) := blk_cell hY6 0
           have yW71 : W7.cell? ⟨W.heap.size + 1, 1, none⟩ = some (.int .u8 i2) := blk_cell hY6 1
           have yW72 : W7.cell? ⟨W.heap.size + 1, 2, none⟩ = some (.int .u64 i3) := blk_cell hY6 2
           have yW7f0 : W7.frozen? ⟨W.heap.size + 1, 0, none⟩ = false := blk_frozen hY6 0
           have yW7f1 : W7.frozen? ⟨W.heap.size + 1, 1, none⟩ = false := blk_frozen hY6 1
           have yW7f2 : W7.frozen? ⟨W.heap.size + 1, 2, none⟩ = false := blk_frozen hY6 2
           clear hQ6 hX6 hY6 hO6))
      try simp only [Exit.inBlock, Exit.then]
      have hX7 := blk_set (blk_set (blk_set HXW7.out 0 (.int .u8 0)) 1 (.int .u8 0)) 2 (.int .u64 0)
      refine bodyPost_ret (results_cttt (p := 2) (u := 3) (q := 4) (r := 5) rfl _ _ _ _ _ _ _ rfl hX7 Tryz.underlying82 rfl (by kernel_rfl)) rfl ⟨fun h => absurd h (by have := HC.out; omega), fun _ => ⟨⟨_, ua, rfl, .inr rfl⟩, ?_⟩, ?_⟩
      · refine HKQ.out W7 _ _ HQW7.out HOW7.out.size (fun i hi => ?_)
        rw [Below.heap_setCell _ ⟨W.heap.size, 2, none⟩ _ i (by show i ≠ W.heap.size; omega), Below.heap_setCell _ ⟨W.heap.size, 1, none⟩ _ i (by show i ≠ W.heap.size; omega), Below.heap_setCell _ ⟨W.heap.size, 0, none⟩ _ i (by show i ≠ W.heap.size; omega)]
      · exact (((HOW7.out).setCell (a := ⟨W.heap.size, 0, none⟩) (fun h => absurd h (by simp)) _).setCell (a := ⟨W.heap.size, 1, none⟩) (fun h => absurd h (by simp)) _).setCell (a := ⟨W.heap.size, 2, none⟩) (fun h => absurd h (by simp)) _
  · have HA : Hid (Calls Tryz.prog 142 #[.iface T r] W0 fun e w' => ∃ q v, e = .returned (.tuple #[.agg #[.int .u8 0, .int .u8 0, .int .u64 0], .int .i64 q, (.iface 248 (.pointer (some v)))]) ∧ (v = va ∨ v = ua) ∧ Q w' [] ∧ w'.heap[W.heap.size]? = some (.cells #[.int .u8 0, .int .u8 0, .int .u64 0] 82 (0, 0)) ∧ w'.heap[W.heap.size + 1]? = some (.cells #[.int .u8 0, .int .u8 0, .int .u64 0] 82 (0, 0)) ∧ Only (fun b => b = g) W w') := Lib.hid (by
      refine HI.mono ?_
      rintro e w' ⟨_, h1, ho⟩
      obtain ⟨⟨q, v, he, hv⟩, hq⟩ := h1 (by omega)
      exact ⟨q, v, he, hv, hq, (ho.block _ (blk_lt hX0) (by omega)).trans hX0, (ho.block _ (blk_lt hY0) (by omega)).trans hY0, (Only.of_below (fun b => b = g) hb0).trans ho (fun i _ h => h)⟩)
    have HC : Hid (l.length < k1 + k2) := Lib.hid (by omega)
    have HW0 := Lib.hid hW0
    clear hQ R hB hb0 hX0 hY0 hW0 HI hi hl hk1 hk2 hn hxl hx hc1
    go_enter Tryz.func122, Tryz.ntmps122
    go_upto_region 3 with fail
    rw [← HW0.out]
    go_wp2_with (go_at_call 142
                 with_reducible refine HA.out.mono ?_
                 rintro e W6 ⟨q, v, rfl, hv, hQ6, hX6, hY6, hO6⟩
                 have HQW6 := Lib.hid hQ6
                 have HXW6 := Lib.hid hX6
                 have HYW6 := Lib.hid hY6
                 have HOW6 := Lib.hid hO6
                 have xW60 : W6.cell? ⟨W.heap.size, 0, none⟩ = some (.int .u8 0) := blk_cell hX6 0
                 have xW61 : W6.cell? ⟨W.heap.size, 1, none⟩ = some (.int .u8 0) := blk_cell hX6 1
                 have xW62 : W6.cell? ⟨W.heap.size, 2, none⟩ = some (.int .u64 0) := blk_cell hX6 2
                 have xW6f0 : W6.frozen? ⟨W.heap.size, 0, none⟩ = false := blk_frozen hX6 0
                 have xW6f1 : W6.frozen? ⟨W.heap.size, 1, none⟩ = false := blk_frozen hX6 1
                 have xW6f2 : W6.frozen? ⟨W.heap.size, 2, none⟩ = false := blk_frozen hX6 2
                 have yW60 : W6.cell? ⟨W.heap.size + 1, 0, none⟩ = some (.int .u8 0) := blk_cell hY6 0
                 have yW61 : W6.cell? ⟨W.heap.size + 1, 1, none⟩ = some (.int .u8 0) := blk_cell hY6 1
                 have yW62 : W6.cell? ⟨W.heap.size + 1, 2, none⟩ = some (.int .u64 0) := blk_cell hY6 2
                 have yW6f0 : W6.frozen? ⟨W.heap.size + 1, 0, none⟩ = false := blk_frozen hY6 0
                 have yW6f1 : W6.frozen? ⟨W.heap.size + 1, 1, none⟩ = false := blk_frozen hY6 1
                 have yW6f2 : W6.frozen? ⟨W.heap.size + 1, 2, none⟩ = false := blk_frozen hY6 2
                 have HV := Lib.hid hv; clear hv hQ6 hX6 hY6 hO6)
    try simp only [Exit.inBlock, Exit.then]
    have hX7 := blk_set (blk_set (blk_set (blk_far (blk_far (blk_far HXW6.out (p := ⟨W.heap.size + 1, 0, none⟩) (by simp) (.int .u8 0)) (p := ⟨W.heap.size + 1, 1, none⟩) (by simp) (.int .u8 0)) (p := ⟨W.heap.size + 1, 2, none⟩) (by simp) (.int .u64 0)) 0 (.int .u8 0)) 1 (.int .u8 0)) 2 (.int .u64 0)
    refine bodyPost_ret (results_cttt (p := 2) (u := 3) (q := 4) (r := 5) rfl _ _ _ _ _ _ _ rfl hX7 Tryz.underlying82 rfl (by kernel_rfl)) rfl ⟨fun h => absurd h (by have := HC.out; omega), fun _ => ⟨⟨_, v, rfl, HV.out⟩, ?_⟩, ?_⟩
    · refine HKQ.out W6 _ _ HQW6.out HOW6.out.size (fun i hi => ?_)
      rw [Below.heap_setCell _ ⟨W.heap.size, 2, none⟩ _ i (by show i ≠ W.heap.size; omega), Below.heap_setCell _ ⟨W.heap.size, 1, none⟩ _ i (by show i ≠ W.heap.size; omega), Below.heap_setCell _ ⟨W.heap.size, 0, none⟩ _ i (by show i ≠ W.heap.size; omega), Below.heap_setCell _ ⟨W.heap.size + 1, 2, none⟩ _ i (by show i ≠ W.heap.size + 1; omega), Below.heap_setCell _ ⟨W.heap.size + 1, 1, none⟩ _ i (by show i ≠ W.heap.size + 1; omega), Below.heap_setCell _ ⟨W.heap.size + 1, 0, none⟩ _ i (by show i ≠ W.heap.size + 1; omega)]
    · exact ((((((HOW6.out).setCell (a := ⟨W.heap.size + 1, 0, none⟩) (fun h => absurd h (by simp)) _).setCell (a := ⟨W.heap.size + 1, 1, none⟩) (fun h => absurd h (by simp)) _).setCell (a := ⟨W.heap.size + 1, 2, none⟩) (fun h => absurd h (by simp)) _).setCell (a := ⟨W.heap.size, 0, none⟩) (fun h => absurd h (by simp)) _).setCell (a := ⟨W.heap.size, 1, none⟩) (fun h => absurd h (by simp)) _).setCell (a := ⟨W.heap.size, 2, none⟩) (fun h => absurd h (by simp)) _
end
end Go.Proofs.YteockihoefbmdaaGreatDoor.Ber
namespace Go.Proofs.YteockihoefbmdaaGreatDoor.Ber
open Go.RowKit Go.Proofs.YteockihoefbmdaaGreatDoorW.PrintWords Go.Proofs.YteockihoefbmdaaGreatDoorW.PrintLast Go.Proofs.YteockihoefbmdaaGreatDoor.Buf Go.Proofs.YteockihoefbmdaaGreatDoor.Pk Go.Proofs.YteockihoefbmdaaGreatDoor.Tree
set_option linter.unusedVariables false
set_option linter.unusedSimpArgs false
section
variable {T F : Nat} {r : Value} {g B : Nat} {va ua : Addr} {Q : World → List Int → Prop}
/-- a *io.LimitedReader over the reader r lies in block lb: n bytes are left -/
def AtLim (W : World) (lb T : Nat) (r : Value) (n : Int) : Prop := W.heap[lb]? = some (.cells #[.iface T r, .int .i64 n] 285 (0, 0))
set_option maxHeartbeats 3200000 in
set_option maxRecDepth 100000 in
theorem lim_some (R : RdSpec T F r g B va ua Q) (W : World) (l : List Int) (lb pb po m pc N : Nat) (cur : Array Value) (hL : AtLim W lb T r N) (hN : 0 < N) (hQ : Q W l) (hl : l ≠ []) (hp : W.heap[pb]? = some (.cells cur 5 (0, 0))) (hf : po + m ≤ cur.size) (hpc : m ≤ pc) (hm0 : pc ≤ 9223372036854775807) (hN1 : N < 4294967296) (hlb : B ≤ lb) (hpb : B ≤ pb) :
    Calls Tryz.prog 234 #[.pointer (some ⟨lb, 0, none⟩), .slice (some ⟨pb, po, none⟩) m pc] W fun e w' => ∃ k, k = Nat.min l.length (Nat.min m N) ∧ e = .returned (.tuple #[.int .i64 (k : Nat), .nilIface]) ∧ Q w' (l.drop k) ∧ AtLim w' lb T r ((N - k : Nat) : Int) ∧
      w'.heap[pb]? = some (.cells (cur.toList.take po ++ (nums .u8 (l.take k) ++ cur.toList.drop (po + (l.take k).length))).toArray 5 (0, 0)) ∧ Only (fun i => i = g ∨ i = lb ∨ i = pb) W w' := by
  have hne : lb ≠ pb := by
    rintro rfl
    unfold AtLim at hL
    rw [hp] at hL
    injection hL with hL
    injection hL with _ hL
    exact absurd hL (by decide)
  have hglb : lb ≠ g := fun e => by have := R.lt; omega
  have hm := R.hm
  have hn := R.hn
  have hcf := R.hcf
  obtain ⟨k, hk⟩ : ∃ k, k = Nat.min l.length (Nat.min m N) := ⟨_, rfl⟩
  have hkN : k ≤ N := by rw [hk]; exact Nat.le_trans (Nat.min_le_right _ _) (Nat.min_le_right _ _)
  have hkl : k ≤ l.length := by rw [hk]; exact Nat.min_le_left _ _
  have HR : Hid (∀ mm, mm = Nat.min m N → Calls Tryz.prog F #[r, .slice (some ⟨pb, po, none⟩) mm pc] W fun e w' => e = .returned (.tuple #[.int .i64 (k : Nat), .nilIface]) ∧ Q w' (l.drop k) ∧ w'.heap[lb]? = some (.cells #[.iface T r, .int .i64 N] 285 (0, 0)) ∧ w'.heap[pb]? = some (.cells (cur.toList.take po ++ (nums .u8 (l.take k) ++ cur.toList.drop (po + (l.take k).length))).toArray 5 (0, 0)) ∧ Only (fun i => i = g ∨ i = lb ∨ i = pb) W w') := Lib.hid (by
    rintro mm rfl
    have hmm : Nat.min m N ≤ m := Nat.min_le_left _ _
    refine (R.some_ W l pb po (Nat.min m N) pc cur hQ hl hp (by omega) hpb).mono ?_
    rintro e w' ⟨he, hq, ht, ho⟩
    rw [← hk] at he hq ht
    exact ⟨he, hq, (ho.block lb (blk_lt hL) (by rintro (h | h); exact hglb h; exact hne h)).trans hL, ht, ho.mono (fun i _ h => h.elim .inl (fun h => .inr (.inr h)))⟩)
  have HKQ : Hid (∀ W5 W' n, Q W5 n → (∀ i, i < B → W'.heap[i]? = W5.heap[i]?) → Q W' n) := Lib.hid (fun W5 W' n hq h => R.keep W5 W' n hq h)
  have c0 : W.cell? ⟨lb, 0, none⟩ = some (.iface T r) := blk_cell hL 0
  have c1 : W.cell? ⟨lb, 1, none⟩ = some (.int .i64 N) := blk_cell hL 1
  obtain ⟨nn, hnn⟩ : ∃ nn : Int, nn = (N : Int) := ⟨_, rfl⟩
  rw [← hnn] at c1 HR
  have d0 : decide (nn ≤ 0) = false := decide_eq_false (by omega)
  have HB : Hid (B ≤ lb ∧ lb ≠ pb ∧ k ≤ N) := Lib.hid ⟨hlb, hne, hkN⟩
  have hN0 : (0 : Int) ≤ nn := by omega
  have hN2 : nn < 4294967296 := by omega
  have hmN : (m : Int) ≤ 9223372036854775807 := by omega
  have hkc : (k : Int) ≤ nn := by omega
  have hk0 : (0 : Int) ≤ (k : Int) := by omega
  have HN : Hid (nn = (N : Int)) := Lib.hid hnn
  have HK := Lib.hid hk
  clear hQ R hl hp hf hlb hpb hk hkl hL hne hglb hkN
  by_cases hc : N < m
  · have d1 : decide (nn < (m : Int)) = true := decide_eq_true (by omega)
    have hnt : nn.toNat = N := by omega
    have hNpc : nn ≤ (pc : Int) := by omega
    have HRX := Lib.hid (HR.out N (Nat.min_eq_right (Nat.le_of_lt hc)).symm)
    clear HR hc hN hN1 hnn hpc hm0
    go_enter Tryz.func234, Tryz.ntmps234
    go_wp2_with fail
    with_reducible refine HRX.out.mono ?_
    rintro e W6 ⟨rfl, hQ6, hL6, hp6, hO6⟩
    have HQ6 := Lib.hid hQ6
    have HL6 := Lib.hid hL6
    have HP6 := Lib.hid hp6
    have HO6 := Lib.hid hO6
    have q1 : W6.cell? ⟨lb, 1, none⟩ = some (.int .i64 nn) := blk_cell hL6 1
    have qf : W6.frozen? ⟨lb, 1, none⟩ = false := blk_frozen hL6 1
    clear hQ6 hL6 hp6 hO6
    go_wp2
    go_ret2
    have e : nn - (k : Int) = ((N - k : Nat) : Int) := by have h1 := HN.out; have h2 := HB.out.2.2; omega
    refine ⟨k, HK.out, rfl, HKQ.out W6 _ _ HQ6.out (fun i hi => Below.heap_setCell W6 ⟨lb, 1, none⟩ _ i (by have := HB.out.1; show i ≠ lb; omega)), ?_, (Below.heap_setCell W6 ⟨lb, 1, none⟩ _ pb (fun e => HB.out.2.1 e.symm)).trans HP6.out, HO6.out.setCell (a := ⟨lb, 1, none⟩) (fun _ => .inr (.inl rfl)) _⟩
    rw [← e]
    exact blk_set HL6.out 1 (.int .i64 (nn - (k : Int)))
  · have d1 : decide (nn < (m : Int)) = false := decide_eq_false (by omega)
    have HRX := Lib.hid (HR.out m (Nat.min_eq_left (Nat.le_of_not_lt hc)).symm)
    clear HR hc hN hN1 hnn hpc hm0
    go_enter Tryz.func234, Tryz.ntmps234
    go_wp2_with fail
    with_reducible refine HRX.out.mono ?_
    rintro e W6 ⟨rfl, hQ6, hL6, hp6, hO6⟩
    have HQ6 := Lib.hid hQ6
    have HL6 := Lib.hid hL6
    have HP6 := Lib.hid hp6
    have HO6 := Lib.hid hO6
    have q1 : W6.cell? ⟨lb, 1, none⟩ = some (.int .i64 nn) := blk_cell hL6 1
    have qf : W6.frozen? ⟨lb, 1, none⟩ = false := blk_frozen hL6 1
    clear hQ6 hL6 hp6 hO6
    go_wp2
    go_ret2
    have e : nn - (k : Int) = ((N - k : Nat) : Int) := by have h1 := HN.out; have h2 := HB.out.2.2; omega
    refine ⟨k, HK.out, rfl, HKQ.out W6 _ _ HQ6.out (fun i hi => Below.heap_setCell W6 ⟨lb, 1, none⟩ _ i (by have := HB.out.1; show i ≠ lb; omega)), ?_, (Below.heap_setCell W6 ⟨lb, 1, none⟩ _ pb (fun e => HB.out.2.1 e.symm)).trans HP6.out, HO6.out.setCell (a := ⟨lb, 1, none⟩) (fun _ => .inr (.inl rfl)) _⟩
    rw [← e]
    exact blk_set HL6.out 1 (.int .i64 (nn - (k : Int)))
set_option maxHeartbeats 3200000 in
set_option maxRecDepth 100000 in
theorem lim_zero (W : World) (lb : Nat) (A : Option Addr) (m pc : Nat) (hL : AtLim W lb T r 0) (v : Value) (he : W.cell? ⟨0, 0, none⟩ = some v) :
    Calls Tryz.prog 234 #[.pointer (some ⟨lb, 0, none⟩), .slice A m pc] W fun e w' => e = .returned (.tuple #[.int .i64 0, v]) ∧ w' = W.drew := by
  have c0 : W.cell? ⟨lb, 0, none⟩ = some (.iface T r) := blk_cell hL 0
  have c1 : W.cell? ⟨lb, 1, none⟩ = some (.int .i64 0) := blk_cell hL 1
  have he' : W.drew.cell? ⟨0, 0, none⟩ = some v := he
  clear hL
  go_enter Tryz.func234, Tryz.ntmps234
  go_wp2_with fail
  go_region
  go_wp2
  go_ret2
  exact ⟨rfl, rfl⟩
set_option maxHeartbeats 3200000 in
set_option maxRecDepth 100000 in
theorem lim_none (R : RdSpec T F r g B va ua Q) (W : World) (lb N : Nat) (A : Option Addr) (pb po m pc : Nat) (hA : A = some ⟨pb, po, none⟩) (hL : AtLim W lb T r N) (hN : 0 < N) (hQ : Q W []) (hpc : m ≤ pc) (hm0 : pc ≤ 9223372036854775807) (hm1 : 0 < m) (hN1 : N < 4294967296) (hlb : B ≤ lb) :
    Calls Tryz.prog 234 #[.pointer (some ⟨lb, 0, none⟩), .slice A m pc] W fun e w' => e = .returned (.tuple #[.int .i64 0, (.iface 248 (.pointer (some va)))]) ∧ Q w' [] ∧ AtLim w' lb T r N ∧ Only (fun i => i = g ∨ i = lb) W w' := by
  subst hA
  have hglb : lb ≠ g := fun e => by have := R.lt; omega
  have hm := R.hm
  have hn := R.hn
  have hcf := R.hcf
  have HR : Hid (∀ mm, 0 < mm → Calls Tryz.prog F #[r, .slice (some ⟨pb, po, none⟩) mm pc] W fun e w' => e = .returned (.tuple #[.int .i64 0, (.iface 248 (.pointer (some va)))]) ∧ Q w' [] ∧ w'.heap[lb]? = some (.cells #[.iface T r, .int .i64 N] 285 (0, 0)) ∧ Only (fun i => i = g ∨ i = lb) W w') := Lib.hid (by
    intro mm hmm
    refine (R.none_ W (some ⟨pb, po, none⟩) mm pc hQ hmm).mono ?_
    rintro e w' ⟨he, hq, ho⟩
    exact ⟨he, hq, (ho.block lb (blk_lt hL) hglb).trans hL, ho.mono (fun i _ h => .inl h)⟩)
  have HKQ : Hid (∀ W5 W' n, Q W5 n → (∀ i, i < B → W'.heap[i]? = W5.heap[i]?) → Q W' n) := Lib.hid (fun W5 W' n hq h => R.keep W5 W' n hq h)
  have c0 : W.cell? ⟨lb, 0, none⟩ = some (.iface T r) := blk_cell hL 0
  have c1 : W.cell? ⟨lb, 1, none⟩ = some (.int .i64 N) := blk_cell hL 1
  obtain ⟨nn, hnn⟩ : ∃ nn : Int, nn = (N : Int) := ⟨_, rfl⟩
  rw [← hnn] at c1 HR
  have d0 : decide (nn ≤ 0) = false := decide_eq_false (by omega)
  have HB := Lib.hid hlb
  have hN0 : (0 : Int) ≤ nn := by omega
  have hN2 : nn < 4294967296 := by omega
  have hmN : (m : Int) ≤ 9223372036854775807 := by omega
  have HN : Hid (nn = (N : Int)) := Lib.hid hnn
  clear hQ R hL hglb hlb
  by_cases hc : N < m
  · have d1 : decide (nn < (m : Int)) = true := decide_eq_true (by omega)
    have hnt : nn.toNat = N := by omega
    have hNpc : nn ≤ (pc : Int) := by omega
    have HRX := Lib.hid (HR.out N hN)
    clear HR hc hN hN1 hnn hpc hm0 hm1
    go_enter Tryz.func234, Tryz.ntmps234
    go_wp2_with fail
    with_reducible refine HRX.out.mono ?_
    rintro e W6 ⟨rfl, hQ6, hL6, hO6⟩
    have HQ6 := Lib.hid hQ6
    have HL6 := Lib.hid hL6
    have HO6 := Lib.hid hO6
    have q1 : W6.cell? ⟨lb, 1, none⟩ = some (.int .i64 nn) := blk_cell hL6 1
    have qf : W6.frozen? ⟨lb, 1, none⟩ = false := blk_frozen hL6 1
    clear hQ6 hL6 hO6
    go_wp2
    go_ret2
    refine ⟨rfl, HKQ.out W6 _ _ HQ6.out (fun i hi => Below.heap_setCell W6 ⟨lb, 1, none⟩ _ i (by have := HB.out; show i ≠ lb; omega)), ?_, HO6.out.setCell (a := ⟨lb, 1, none⟩) (fun _ => .inr rfl) _⟩
    rw [← HN.out]
    exact blk_set HL6.out 1 (.int .i64 nn)
  · have d1 : decide (nn < (m : Int)) = false := decide_eq_false (by omega)
    have HRX := Lib.hid (HR.out m hm1)
    clear HR hc hN hN1 hnn hpc hm0 hm1
    go_enter Tryz.func234, Tryz.ntmps234
    go_wp2_with fail
    with_reducible refine HRX.out.mono ?_
    rintro e W6 ⟨rfl, hQ6, hL6, hO6⟩
    have HQ6 := Lib.hid hQ6
    have HL6 := Lib.hid hL6
    have HO6 := Lib.hid hO6
    have q1 : W6.cell? ⟨lb, 1, none⟩ = some (.int .i64 nn) := blk_cell hL6 1
    have qf : W6.frozen? ⟨lb, 1, none⟩ = false := blk_frozen hL6 1
    clear hQ6 hL6 hO6
    go_wp2
    go_ret2
    refine ⟨rfl, HKQ.out W6 _ _ HQ6.out (fun i hi => Below.heap_setCell W6 ⟨lb, 1, none⟩ _ i (by have := HB.out; show i ≠ lb; omega)), ?_, HO6.out.setCell (a := ⟨lb, 1, none⟩) (fun _ => .inr rfl) _⟩
    rw [← HN.out]
    exact blk_set HL6.out 1 (.int .i64 nn)
end
end Go.Proofs.YteockihoefbmdaaGreatDoor.Ber
namespace Go.Proofs.YteockihoefbmdaaGreatDoor.Ber
open Go.RowKit Go.Proofs.YteockihoefbmdaaGreatDoorW.PrintWords Go.Proofs.YteockihoefbmdaaGreatDoorW.PrintLast Go.Proofs.YteockihoefbmdaaGreatDoor.Buf Go.Proofs.YteockihoefbmdaaGreatDoor.Pk Go.Proofs.YteockihoefbmdaaGreatDoor.Tree
set_option linter.unusedVariables false
set_option linter.unusedSimpArgs false
/-- a slice of slices of bytes -/
abbrev kBs : Kd (List Int) := Kd.slice 5 B8
set_option maxHeartbeats 3200000 in
set_option maxRecDepth 100000 in
theorem mk_512 : ∃ M : Array Value, M.size = 512 ∧ ∀ w : World, (Instr.makeSlice 22 (.int .i64 0) (.int .i64 512)).run Tryz.prog w = .ok (.slice (some ⟨w.heap.size, 0, none⟩) 0 512) (w.alloc (.cells M 5)) := by
  obtain ⟨i0, hi, hz0, hz1, hz2⟩ := info_parts info_u8
  obtain ⟨c, hc⟩ : ∃ c : Int, c = 512 := ⟨_, rfl⟩
  have hc0 : 0 ≤ c := by omega
  have hcb : c.toNat * i0.size ≤ 16777216 := by rw [hz1, hc]; omega
  have hcz : (i0.bytes : Int) * c ≤ 281474976710656 := by rw [hz2, hc]; omega
  have hc6 : c ≤ 9223372036854775807 := by omega
  have hcn : c.toNat = 512 := by omega
  refine ⟨madeCells (Value.int .u8 0).cells (c.toNat * i0.size), by rw [size_madeCells, hz1, hcn], fun w => ?_⟩
  have h := run_makeSlice (P := Tryz.prog) w 22 5 i0 (.int .u8 0) Tryz.underlying22 hi hz0 .i64 .i64 0 c (Int.le_refl 0) hc0 hcb hcz hc6
  rw [hcn] at h ⊢
  rw [hc] at h
  exact h
/-- a slice's length -/
def lenOf : Value → Nat
  | .slice _ n _ => n
  | _ => 0
theorem mk_4 : ∀ w : World, (Instr.makeSlice 56 (.int .i64 0) (.int .i64 4)).run Tryz.prog w = .ok (.slice (some ⟨w.heap.size, 0, none⟩) 0 4) (w.alloc (.cells #[.slice none 0 0, .slice none 0 0, .slice none 0 0, .slice none 0 0] 22)) := fun _ => by kernel_rfl
theorem lim_m (lb : Nat) : ∀ w : World, (method 446 283 (.pointer (some ⟨lb, 0, none⟩)) "Read").run Tryz.prog w = .ok (234, .pointer (some ⟨lb, 0, none⟩)) w := fun _ => by kernel_rfl
theorem lim_n (lb : Nat) : ∀ w : World, (nilAhead 446 283 (.pointer (some ⟨lb, 0, none⟩)) "Read").run Tryz.prog w = .ok (some false) w := fun _ => by kernel_rfl
theorem lim_f : ∀ (args : Array Value) (w : World), (callFunc 234 args).run Tryz.prog w = .ok (.enter 234 args) w := fun _ _ => by kernel_rfl
section
variable {T F : Nat} {r : Value} {g B : Nat} {va ua : Addr} {Q : World → List Int → Prop}
/-- ReadAll's loop: what is read stands in chunks, and in the row that is filled -/
structure AllI (T : Nat) (r : Value) (g lb : Nat) (Q : World → List Int → Prop) (W : World) (N : Nat) (l : List Int) (w : World) (pb cap : Nat) (next : Int) (vc : Value) (xb : List Int) (cs : List (List Int)) : Prop where
  on : Only (fun i => i = g ∨ i = lb) W w
  pre : cs.flatten ++ xb = l.take (cs.flatten.length + xb.length)
  le : cs.flatten.length + xb.length ≤ l.length
  leN : cs.flatten.length + xb.length ≤ N
  q : Q w (l.drop (cs.flatten.length + xb.length))
  lim : AtLim w lb T r ((N - (cs.flatten.length + xb.length) : Nat) : Int)
  rb : B8.R 5 w W.heap.size (fun _ => True) (.slice (some ⟨pb, 0, none⟩) xb.length cap) xb
  rc : kBs.R 22 w W.heap.size (fun k => k ≠ pb) vc cs
  n0 : 256 ≤ next
  n1 : next ≤ cs.flatten.length + 256
  n2 : 2 * next ≤ 3 * (cap : Int)
  c0 : xb.length ≤ cap
  cl : cs.length ≤ cs.flatten.length
  c1 : cap ≤ 9223372036854775807
  c16 : 16 ≤ cap
theorem AllI.start (R : RdSpec T F r g B va ua Q) {W : World} {l : List Int} {lb N : Nat} {M : Array Value} (hM : M.size = 512) (hL : AtLim W lb T r N) (hQ : Q W l) (hB : B ≤ W.heap.size) {w : World}
    (hw : w = (W.alloc (.cells M 5)).alloc (.cells #[.slice none 0 0, .slice none 0 0, .slice none 0 0, .slice none 0 0] 22)) :
    AllI T r g lb Q W N l w W.heap.size 512 256 (.slice (some ⟨W.heap.size + 1, 0, none⟩) 0 4) [] [] := by
  subst hw
  have hb : Below W.heap.size W ((W.alloc (.cells M 5)).alloc (.cells #[.slice none 0 0, .slice none 0 0, .slice none 0 0, .slice none 0 0] 22)) := below_alloc (below_alloc (Below.refl _ _) _) _
  have h0 := blk_alloc (blk_new W (.cells M 5)) (.cells #[.slice none 0 0, .slice none 0 0, .slice none 0 0, .slice none 0 0] 22)
  have h1 := blk_new (W.alloc (.cells M 5)) (.cells #[.slice none 0 0, .slice none 0 0, .slice none 0 0, .slice none 0 0] 22)
  have e : (W.alloc (.cells M 5)).heap.size = W.heap.size + 1 := by simp
  rw [e] at h1
  refine ⟨Only.of_below _ hb, rfl, Nat.zero_le _, Nat.zero_le _, R.keep W _ _ hQ (fun b h => hb.block b (Nat.lt_of_lt_of_le h hB)), ?_, ?_, ?_, by omega, by simp, by omega, by simp, by simp, by omega, by omega⟩
  · exact (hb.block lb (blk_lt hL)).trans hL
  · refine own_int ⟨rfl, .inr ⟨W.heap.size, 512, M, rfl, Nat.le_refl _, h0, by simp, by unfold maxLen; omega, by omega, rfl⟩⟩ (fun _ _ => trivial)
  · refine ⟨fun k hk => ?_, [], ⟨rfl, .inr ⟨W.heap.size + 1, 4, _, rfl, by omega, h1, by simp, by unfold maxLen; omega, rfl, rfl⟩⟩, Reps.none _ _⟩
    simp [Value.ownBlock] at hk
    omega
theorem Only_of_drew {S : Nat → Prop} {w w' : World} (h : Only S w.drew w') : Only S w w' := ⟨h.os, h.tape, h.output, h.size, h.block⟩
theorem AllI.row {W : World} {l : List Int} {lb N : Nat} {w : World} {pb cap : Nat} {next : Int} {vc : Value} {xb : List Int} {cs : List (List Int)} (I : AllI T r g lb Q W N l w pb cap next vc xb cs) :
    ∃ cur : Array Value, w.heap[pb]? = some (.cells cur 5 (0, 0)) ∧ cur.size = cap ∧ cur.toList.take xb.length = nums .u8 xb ∧ W.heap.size ≤ pb := by
  obtain ⟨_, h⟩ := int_own I.rb
  rcases h with ⟨h, _⟩ | ⟨g', cap', cur, hv, hg, hh, h1, h2, h3, h4⟩
  · cases h
  · injection hv with ha _ hc
    injection ha with ha
    injection ha with ha
    subst ha hc
    exact ⟨cur, hh, by omega, by rw [Nat.mul_one] at h4; exact h4, hg⟩
theorem AllI.read (R : RdSpec T F r g B va ua Q) {W : World} {l : List Int} {lb N : Nat} {w w' : World} {pb cap : Nat} {next : Int} {vc : Value} {xb : List Int} {cs : List (List Int)} (I : AllI T r g lb Q W N l w pb cap next vc xb cs) (hlb : lb < W.heap.size) (hgW : g < W.heap.size)
    {cur : Array Value} (hcur : w.heap[pb]? = some (.cells cur 5 (0, 0))) (hcs : cur.size = cap) (hct : cur.toList.take xb.length = nums .u8 xb) (hpb : W.heap.size ≤ pb) {k : Nat} (hk1 : cs.flatten.length + xb.length + k ≤ l.length) (hkN : k ≤ N - (cs.flatten.length + xb.length)) (hkc : xb.length + k ≤ cap)
    (hq : Q w' ((l.drop (cs.flatten.length + xb.length)).drop k)) (hL : AtLim w' lb T r ((N - (cs.flatten.length + xb.length) - k : Nat) : Int))
    (hrow : w'.heap[pb]? = some (.cells (cur.toList.take xb.length ++ (nums .u8 ((l.drop (cs.flatten.length + xb.length)).take k) ++ cur.toList.drop (xb.length + ((l.drop (cs.flatten.length + xb.length)).take k).length))).toArray 5 (0, 0)))
    (ho : Only (fun i => i = g ∨ i = lb ∨ i = pb) w w') :
    ∃ xb', xb'.length = xb.length + k ∧ AllI T r g lb Q W N l w' pb cap next vc xb' cs := by
  obtain ⟨ys, hys⟩ : ∃ ys, ys = (l.drop (cs.flatten.length + xb.length)).take k := ⟨_, rfl⟩
  have hyl : ys.length = k := by rw [hys, List.length_take, List.length_drop]; omega
  rw [← hys, hyl, hct] at hrow
  refine ⟨xb ++ ys, by rw [List.length_append, hyl], ?_⟩
  have hlen : cs.flatten.length + (xb ++ ys).length = cs.flatten.length + xb.length + k := by rw [List.length_append, hyl, Nat.add_assoc]
  refine ⟨(I.on.trans ho ?_), ?_, by rw [hlen]; exact hk1, by rw [hlen]; have := I.leN; omega, by rw [hlen, ← List.drop_drop]; exact hq, by rw [hlen, ← Nat.sub_sub]; exact hL, ?_, ?_, I.n0, I.n1, I.n2, by rw [List.length_append, hyl]; exact hkc, I.cl, I.c1, I.c16⟩
  · rintro i hi (h | h | h)
    · exact .inl h
    · exact .inr h
    · omega
  · rw [hlen, ← List.append_assoc, I.pre, List.take_add (i := cs.flatten.length + xb.length), ← hys]
  · refine own_int ⟨by rw [nums_length, Nat.mul_one], .inr ⟨pb, cap, _, rfl, hpb, hrow, by rw [List.length_append, hyl]; omega, by unfold maxLen; have := I.c1; omega, ?_, ?_⟩⟩ (fun _ _ => trivial)
    · have h1 : (nums .u8 xb).length = xb.length := nums_length _ _
      have h2 : (nums .u8 ys).length = k := by rw [nums_length, hyl]
      simp only [List.size_toArray, List.length_append, List.length_drop, Array.length_toList, h1, h2, Nat.mul_one]
      omega
    · rw [Nat.mul_one, ← List.append_assoc, ← nums_append]
      have hnl : (nums .u8 (xb ++ ys)).length = (xb ++ ys).length := nums_length _ _
      rw [List.length_append] at hnl ⊢
      exact List.take_left' hnl
  · refine Kd.R_mono (Kd.R_step (Kd.R_bound I.rc) ?_) (fun k hk => hk.1)
    rintro i ⟨h1, h2, _⟩ hi
    refine ho.block i hi ?_
    rintro (h | h | h)
    · omega
    · omega
    · exact h1 h
theorem AllI.still (R : RdSpec T F r g B va ua Q) {W : World} {l : List Int} {lb N : Nat} {w w' : World} {pb cap : Nat} {next : Int} {vc : Value} {xb : List Int} {cs : List (List Int)} (I : AllI T r g lb Q W N l w pb cap next vc xb cs) (hlb : lb < W.heap.size) (hgW : g < W.heap.size)
    (hq : Q w' (l.drop (cs.flatten.length + xb.length))) (hL : AtLim w' lb T r ((N - (cs.flatten.length + xb.length) : Nat) : Int)) (ho : Only (fun i => i = g ∨ i = lb) w w') : AllI T r g lb Q W N l w' pb cap next vc xb cs := by
  have hm : ∀ i, W.heap.size ≤ i → i < w.heap.size → w'.heap[i]? = w.heap[i]? := fun i h1 h2 => ho.block i h2 (by rintro (h | h) <;> omega)
  refine ⟨I.on.trans ho (fun i _ h => h), I.pre, I.le, I.leN, hq, hL, ?_, ?_, I.n0, I.n1, I.n2, I.c0, I.cl, I.c1, I.c16⟩
  · exact Kd.R_mono (Kd.R_step (Kd.R_bound I.rb) (fun k hk hlt => hm k hk.2.1 hlt)) (fun k hk => hk.1)
  · exact Kd.R_mono (Kd.R_step (Kd.R_bound I.rc) (fun k hk hlt => hm k hk.2.1 hlt)) (fun k hk => hk.1)
theorem AllI.push (R : RdSpec T F r g B va ua Q) {W : World} {l : List Int} {lb N : Nat} {w w1 w2 : World} {pb cap : Nat} {next : Int} {vc v1 : Value} {xb : List Int} {cs : List (List Int)} (I : AllI T r g lb Q W N l w pb cap next vc xb cs) (hlb : lb < W.heap.size) (hB : B ≤ W.heap.size)
    (hx : 1 ≤ xb.length) (hmv : (cap : Int) - xb.length < cap / 16) (hR1 : kBs.R 22 w1 W.heap.size (fun _ => True) v1 (cs ++ [xb])) (hb1 : Below W.heap.size w w1) {pb2 cap2 n2 : Nat} (hn2 : (n2 : Int) = next) {zs : List Int} (hR2 : B8.R 5 w2 w1.heap.size (fun k => w1.heap.size ≤ k) (.slice (some ⟨pb2, 0, none⟩) n2 cap2) zs) (hb2 : Below w1.heap.size w1 w2) :
    AllI T r g lb Q W N l w2 pb2 cap2 (next + next / 2) v1 [] (cs ++ [xb]) := by
  have hfl : (cs ++ [xb]).flatten.length + ([] : List Int).length = cs.flatten.length + xb.length := by simp
  have hs1 : W.heap.size ≤ w1.heap.size := Nat.le_trans I.on.size hb1.size
  have hb12 : Below W.heap.size w w2 := hb1.trans (hb2.mono hs1)
  have hzl : n2 = zs.length := by
    obtain ⟨_, _, e⟩ := Kd.R_slice hR2
    injection e
  have hcap : n2 ≤ cap2 := (Kd.R_reads' hR2).2.1 |> fun h => by omega
  have hc1 : cap2 ≤ 9223372036854775807 := by
    obtain ⟨_, h⟩ := int_own hR2
    rcases h with ⟨h, _⟩ | ⟨g', cap', cur, hv, hg, hh, h1, h2, h3, h4⟩
    · cases h
    · injection hv with ha _ hc
      subst hc
      unfold maxLen at h2
      omega
  have n0 := I.n0
  have n1 := I.n1
  have n2' := I.n2
  refine ⟨I.on.trans (S' := fun i => W.heap.size ≤ i) ⟨hb12.os, hb12.tape, hb12.output, hb12.size, fun i _ hn => hb12.block i (Nat.lt_of_not_le hn)⟩ (fun i hi h => absurd h (Nat.not_le.2 hi)), ?_, by rw [hfl]; exact I.le, by rw [hfl]; exact I.leN, by rw [hfl]; exact R.keep w w2 _ I.q (fun b h => hb12.block b (Nat.lt_of_lt_of_le h hB)), by rw [hfl]; exact (hb12.block lb hlb).trans I.lim, ?_, ?_, by omega, ?_, by omega, Nat.zero_le _, ?_, hc1, by omega⟩
  · rw [hfl, List.append_nil]
    simpa using I.pre
  · have h0 := Kd.R_take (m := 0) hR2 (Nat.zero_le _)
    rw [List.take_zero] at h0
    exact Kd.R_mono (Kd.R_lower h0 hs1) (fun _ _ => trivial)
  · refine Kd.R_mono (Kd.R_below (Kd.R_bound hR1) hb2) ?_
    rintro k ⟨_, _, hk, _⟩ rfl
    have := hR2.1 k (by simp [Value.ownBlock])
    simp only at this
    omega
  · have : (cs ++ [xb]).flatten.length = cs.flatten.length + xb.length := by simp
    rw [this]
    omega
  · have : (cs ++ [xb]).flatten.length = cs.flatten.length + xb.length := by simp
    rw [this, List.length_append, List.length_singleton]
    have := I.cl
    omega
theorem info_bs : (Tryz.prog.info? 22).map (fun i => (i.zero, i.size, i.bytes)) = some (some (.slice none 0 0), 1, 24) := by kernel_rfl
theorem chunk_at {w : World} {base : Nat} {ok : Nat → Prop} {A : Option Addr} {c0 n : Nat} {cs : List (List Int)} (h : kBs.R 22 w base ok (.slice A n c0) cs) {k : Nat} (hk : k < cs.length) :
    ∃ ad Ak ck, A = some ad ∧ w.cell? (ad.add k) = some (.slice Ak cs[k].length ck) ∧ B8.C w Ak cs[k].length cs[k] := by
  obtain ⟨A', c', he, _, hC⟩ := Kd.R_reads h
  injection he with hA hn hc
  subst hA
  obtain ⟨ad, c, hA, hcl, ⟨Ak, ck, hcc, hle, hK⟩, hcell⟩ := Kd.C_get hC [] (k : Int) (by omega) (by omega)
  rw [Int.toNat_natCast, List.getD_eq_getElem?_getD, List.getElem?_eq_getElem hk, Option.getD_some] at hcc hK
  refine ⟨ad, Ak, ck, hA, ?_, hK⟩
  have := hcell 0 _ (by rw [hcc]; rfl)
  simpa [Kd.slice] using this
set_option maxHeartbeats 3200000 in
set_option maxRecDepth 100000 in
theorem readAll_any (R : RdSpec T F r g B va ua Q) (W : World) (l : List Int) (lb N : Nat) (hL : AtLim W lb T r N) (hQ : Q W l) (hN : N < 4294967296) (hlb : B ≤ lb) (hll : l.length < 1099511627776) :
    Calls Tryz.prog 125 #[.iface 283 (.pointer (some ⟨lb, 0, none⟩))] W fun e w' => ∃ v, e = .returned (.tuple #[v, .nilIface]) ∧ B8.R 5 w' W.heap.size (fun _ => True) v (l.take N) ∧ Q w' (l.drop N) ∧ Only (fun i => i = g ∨ i = lb) W w' := by
  obtain ⟨M, hM, hmk⟩ := mk_512
  have hmk4 := mk_4
  have hn := lim_n lb
  have HM := Lib.hid (lim_m lb)
  have HCF := Lib.hid lim_f
  have hmf : ∀ (fn : Fn) (first cap : Array Value) (w : World), (Instr.makeFunc fn first cap).run Tryz.prog w = .ok (.func fn first cap) w := fun _ _ _ _ => rfl
  have hlW : lb < W.heap.size := blk_lt hL
  have hgW : g < W.heap.size := by have := R.lt; omega
  have HI0 := Lib.hid (fun w hw => AllI.start (w := w) R hM hL hQ (Nat.le_trans hlb (Nat.le_of_lt hlW)) hw)
  have HR := Lib.hid R
  have HB := Lib.hid hlb
  have HNN := Lib.hid hN
  have HLL := Lib.hid hll
  clear hL hQ hN hlb R hll
  go_enter Tryz.func125, Tryz.ntmps125
  go_wp2
  go_loopw [4, 5, 6, 7] (fun b nx ch fs wr => ∃ (pb n cap : Nat) (next f : Int) (xb : List Int) (cs : List (List Int)), b = .slice (some ⟨pb, 0, none⟩) n cap ∧ n = xb.length ∧ n < cap ∧ nx = .int .i64 next ∧ fs = .int .i64 f ∧ f = (cs.flatten.length : Int) ∧ Hid (AllI T r g lb Q W N l wr pb cap next ch xb cs)) (fun b _ _ fs _ => N + 1 - ((intOf fs).toNat + lenOf b))
  case atStart => exact ⟨W.heap.size, 0, 512, 256, 0, [], [], rfl, rfl, by omega, rfl, rfl, rfl, Lib.hid (HI0.out _ rfl)⟩
  case round =>
    obtain ⟨pb, n, cap, next, f, xb, cs, rfl, hnx, hncap, rfl, rfl, hf, HI⟩ := hrel
    obtain ⟨A0, c0, hvc⟩ := Kd.R_slice HI.out.rc
    subst hvc
    obtain ⟨cur, hcur, hcs, hct, hpb⟩ := HI.out.row
    have HNX := Lib.hid hnx
    have HF := Lib.hid hf
    have hnc : n ≤ cap := by omega
    have hne : ¬ cap = n := by omega
    obtain ⟨t, ht⟩ : ∃ t, t = cs.flatten.length + xb.length := ⟨_, rfl⟩
    have hqt := HI.out.q
    have hlt := HI.out.lim
    rw [← ht] at hqt hlt
    have HT := Lib.hid ht
    have HCX : Hid (cap ≤ 9223372036854775807) := Lib.hid HI.out.c1
    have HLE : Hid (t ≤ l.length ∧ t ≤ N ∧ f = (t : Int) - n) := Lib.hid ⟨by rw [ht]; exact HI.out.le, by rw [ht]; exact HI.out.leN, by omega⟩
    have hf0 : 0 ≤ f := by omega
    have hn0 : 0 ≤ (n : Int) := by omega
    have hs3 : (cap : Int) ≤ 9223372036854775807 := by have := HCX.out; omega
    by_cases hend : t < l.length ∧ t < N
    · have HLIM := lim_some HR.out wr.drew (l.drop t) lb pb n (cap - n) (cap - n) (N - t) cur hlt (by omega) (HR.out.keep wr _ _ hqt (fun _ _ => rfl)) (fun e => by have := congrArg List.length e; rw [List.length_drop] at this; simp at this; omega) hcur (by omega) (Nat.le_refl _) (by have := HCX.out; omega) (by have := HNN.out; omega) HB.out (Nat.le_trans HB.out (Nat.le_trans (Nat.le_of_lt hlW) hpb))
      have HLIM2 := Lib.hid HLIM
      have HEND := Lib.hid hend
      have HCUR := Lib.hid (And.intro hcur (And.intro hcs (And.intro hct hpb)))
      clear HLIM hqt hlt ht hcs hct hcur hf hnx hncap hend
      go_upto_region 5 with fail
      refine start_ (n := 16) (S := fun w' => True) (ds := []) #[nN,nN,nN,nN,nN,nN,nN,nN,nN,nN,nN,nN,nN,nN,nN,nN] (by kernel_rfl) rfl rfl trivial (fun hHeld => ?_)
      refine pure_ (i := 0) (N := some 16) (v := ?_) (a' := ?_) #[yY,nN,nN,nN,nN,nN,nN,nN,nN,nN,nN,nN,nN,nN,nN,nN] rfl rfl (by kernel_rfl) (fun _ _ _ h => h) (Or.inl ⟨by rfl, ?_⟩) ?_ ?_
      rotate_left
      · intro w'
        go_simp
        with_reducible rfl
      rotate_left
      · simp only [Act.put, List.setIfInBounds_toArray, List.set_cons_zero, List.set_cons_succ, i64_w, i32_w]
        rfl
      refine pure_ (i := 1) (N := some 17) (v := ?_) (a' := ?_) #[yY,yY,nN,nN,nN,nN,nN,nN,nN,nN,nN,nN,nN,nN,nN,nN] rfl rfl (by kernel_rfl) (fun _ _ _ h => h) (Or.inl ⟨by rfl, ?_⟩) ?_ ?_
      rotate_left
      · intro w'
        go_simp
        with_reducible rfl
      rotate_left
      · simp only [Act.put, List.setIfInBounds_toArray, List.set_cons_zero, List.set_cons_succ, i64_w, i32_w]
        rfl
      refine pure_ (i := 2) (N := some 18) (v := ?_) (a' := ?_) #[yY,yY,yY,nN,nN,nN,nN,nN,nN,nN,nN,nN,nN,nN,nN,nN] rfl rfl (by kernel_rfl) (fun _ _ _ h => h) (Or.inl ⟨by rfl, ?_⟩) ?_ ?_
      rotate_left
      · intro w'
        go_simp
        with_reducible rfl
      rotate_left
      · simp only [Act.put, List.setIfInBounds_toArray, List.set_cons_zero, List.set_cons_succ, i64_w, i32_w]
        rfl
      refine pure_ (i := 3) (N := some 19) (v := ?_) (a' := ?_) #[yY,yY,yY,yY,nN,nN,nN,nN,nN,nN,nN,nN,nN,nN,nN,nN] rfl rfl (by kernel_rfl) (fun _ _ _ h => h) (Or.inl ⟨by rfl, ?_⟩) ?_ ?_
      rotate_left
      · intro w'
        go_simp
        with_reducible rfl
      rotate_left
      · simp only [Act.put, List.setIfInBounds_toArray, List.set_cons_zero, List.set_cons_succ, i64_w, i32_w]
        rfl
      refine pure_ (i := 4) (N := some 20) (v := ?_) (a' := ?_) #[yY,yY,yY,yY,yY,nN,nN,nN,nN,nN,nN,nN,nN,nN,nN,nN] rfl rfl (by kernel_rfl) (fun _ _ _ h => h) (Or.inl ⟨by rfl, ?_⟩) ?_ ?_
      rotate_left
      · intro w'
        go_simp
        with_reducible rfl
      rotate_left
      · simp only [Act.put, List.setIfInBounds_toArray, List.set_cons_zero, List.set_cons_succ, i64_w, i32_w]
        rfl
      refine pure_ (i := 5) (N := some 21) (v := ?_) (a' := ?_) #[yY,yY,yY,yY,yY,yY,nN,nN,nN,nN,nN,nN,nN,nN,nN,nN] rfl rfl (by kernel_rfl) (fun _ _ _ h => h) (Or.inl ⟨by rfl, ?_⟩) ?_ ?_
      rotate_left
      · intro w'
        go_simp
        with_reducible rfl
      rotate_left
      · simp only [Act.put, List.setIfInBounds_toArray, List.set_cons_zero, List.set_cons_succ, i64_w, i32_w]
        rfl
      refine pure_ (i := 6) (N := some 22) (v := ?_) (a' := ?_) #[yY,yY,yY,yY,yY,yY,yY,nN,nN,nN,nN,nN,nN,nN,nN,nN] rfl rfl (by kernel_rfl) (fun _ _ _ h => h) (Or.inl ⟨by rfl, ?_⟩) ?_ ?_
      rotate_left
      · intro w'
        go_simp
        with_reducible rfl
      rotate_left
      · simp only [Act.put, List.setIfInBounds_toArray, List.set_cons_zero, List.set_cons_succ, i64_w, i32_w]
        rfl
      refine pure_ (i := 7) (N := some 23) (v := ?_) (a' := ?_) #[yY,yY,yY,yY,yY,yY,yY,yY,nN,nN,nN,nN,nN,nN,nN,nN] rfl rfl (by kernel_rfl) (fun _ _ _ h => h) (Or.inl ⟨by rfl, ?_⟩) ?_ ?_
      rotate_left
      · intro w'
        go_simp
        with_reducible rfl
      rotate_left
      · simp only [Act.put, List.setIfInBounds_toArray, List.set_cons_zero, List.set_cons_succ, i64_w, i32_w]
        rfl
      refine pure_ (i := 8) (N := some 24) (v := ?_) (a' := ?_) #[yY,yY,yY,yY,yY,yY,yY,yY,yY,nN,nN,nN,nN,nN,nN,nN] rfl rfl (by kernel_rfl) (fun _ _ _ h => h) (Or.inl ⟨by rfl, ?_⟩) ?_ ?_
      rotate_left
      · intro w'
        go_simp
        with_reducible rfl
      rotate_left
      · simp only [Act.put, List.setIfInBounds_toArray, List.set_cons_zero, List.set_cons_succ, i64_w, i32_w]
        rfl
      refine pure_ (i := 9) (N := some 25) (v := ?_) (a' := ?_) #[yY,yY,yY,yY,yY,yY,yY,yY,yY,yY,nN,nN,nN,nN,nN,nN] rfl rfl (by kernel_rfl) (fun _ _ _ h => h) (Or.inl ⟨by rfl, ?_⟩) ?_ ?_
      rotate_left
      · intro w'
        go_simp
        with_reducible rfl
      rotate_left
      · simp only [Act.put, List.setIfInBounds_toArray, List.set_cons_zero, List.set_cons_succ, i64_w, i32_w]
        rfl
      refine one_ (i := 10) (N := some 26) #[yY,yY,yY,yY,yY,yY,yY,yY,yY,yY,yY,nN,nN,nN,nN,nN] rfl rfl (by kernel_rfl) (by decide) (fun K hK => ?_)
      refine call_ 234 #[.pointer (some ⟨lb, 0, none⟩), .slice (some ⟨pb, n, none⟩) (cap - n) (cap - n)] (by rfl) rfl ?_ ?_
      · have hm1 := HM.out
        have hcf1 := HCF.out
        simp [execOp, resolve, invoke, Act.eval, hm1, hcf1, go_sem]
      with_reducible refine HLIM2.out.mono ?_
      rintro e W5 ⟨k, hk, rfl, hQ5, hL5, hp5, hO5⟩
      refine ⟨_, rfl, ?_⟩
      have HQ5 := Lib.hid hQ5
      have HL5 := Lib.hid hL5
      have HP5 := Lib.hid hp5
      have HO5 := Lib.hid hO5
      have HK5 := Lib.hid hk
      clear hQ5 hL5 hp5 hO5 hk
      refine hK.out _ _ trivial (fun hHeld => ?_)
      clear hK K
      refine norm_ (a' := ?_) ?_ ?_
      rotate_left
      · show Act.put _ (some 26) _ = _
        simp only [Act.put, List.setIfInBounds_toArray, List.set_cons_zero, List.set_cons_succ, i64_w, i32_w]
        rfl
      refine pure_ (i := 11) (N := some 15) (v := ?_) (a' := ?_) #[yY,yY,yY,yY,yY,yY,yY,yY,yY,yY,yY,yY,nN,nN,nN,nN] rfl rfl (by kernel_rfl) (fun _ _ _ h => h) (Or.inl ⟨by rfl, ?_⟩) ?_ ?_
      rotate_left
      · intro w'
        go_simp
        with_reducible rfl
      rotate_left
      · simp only [Act.put, List.setIfInBounds_toArray, List.set_cons_zero, List.set_cons_succ, i64_w, i32_w]
        rfl
      refine pure_ (i := 12) (N := some 27) (v := ?_) (a' := ?_) #[yY,yY,yY,yY,yY,yY,yY,yY,yY,yY,yY,yY,yY,nN,nN,nN] rfl rfl (by kernel_rfl) (fun _ _ _ h => h) (Or.inl ⟨by rfl, ?_⟩) ?_ ?_
      rotate_left
      · intro w'
        go_simp
        with_reducible rfl
      rotate_left
      · simp only [Act.put, List.setIfInBounds_toArray, List.set_cons_zero, List.set_cons_succ, i64_w, i32_w]
        rfl
      refine pure_ (i := 13) (N := some 28) (v := ?_) (a' := ?_) #[yY,yY,yY,yY,yY,yY,yY,yY,yY,yY,yY,yY,yY,yY,nN,nN] rfl rfl (by kernel_rfl) (fun _ _ _ h => h) (Or.inl ⟨by rfl, ?_⟩) ?_ ?_
      rotate_left
      · intro w'
        go_simp
        with_reducible rfl
      rotate_left
      · simp only [Act.put, List.setIfInBounds_toArray, List.set_cons_zero, List.set_cons_succ, i64_w, i32_w]
        rfl
      refine pure_ (i := 14) (N := some 8) (v := ?_) (a' := ?_) #[yY,yY,yY,yY,yY,yY,yY,yY,yY,yY,yY,yY,yY,yY,yY,nN] rfl rfl (by kernel_rfl) (fun _ _ _ h => h) (Or.inl ⟨by rfl, ?_⟩) ?_ ?_
      rotate_left
      · intro w'
        go_simp
        with_reducible rfl
      rotate_left
      · simp only [Act.put, List.setIfInBounds_toArray, List.set_cons_zero, List.set_cons_succ, i64_w, i32_w]
        rfl
      refine pure_ (i := 15) (N := some 9) (v := ?_) (a' := ?_) #[yY,yY,yY,yY,yY,yY,yY,yY,yY,yY,yY,yY,yY,yY,yY,yY] rfl rfl (by kernel_rfl) (fun _ _ _ h => h) (Or.inl ⟨by rfl, ?_⟩) ?_ ?_
      rotate_left
      · intro w'
        go_simp
        with_reducible rfl
      rotate_left
      · simp only [Act.put, List.setIfInBounds_toArray, List.set_cons_zero, List.set_cons_succ, i64_w, i32_w]
        rfl
      refine done_ (by kernel_rfl) ?_

      have hkk : k ≤ cap - n := by rw [HK5.out]; exact Nat.le_trans (Nat.min_le_right _ _) (Nat.min_le_left _ _)
      have hkN : k ≤ N - t := by rw [HK5.out]; exact Nat.le_trans (Nat.min_le_right _ _) (Nat.min_le_right _ _)
      have hkl : k ≤ (l.drop t).length := by rw [HK5.out]; exact Nat.min_le_left _ _
      rw [List.length_drop] at hkl
      have hk1 : 1 ≤ k := by
        rw [HK5.out]
        have h1 := HEND.out
        exact Nat.le_min.2 ⟨by rw [List.length_drop]; omega, Nat.le_min.2 ⟨by omega, by omega⟩⟩
      have HK := Lib.hid (And.intro hkk (And.intro hkN (And.intro hkl hk1)))
      have HI5 : Hid (∃ xb', xb'.length = n + k ∧ AllI T r g lb Q W N l W5 pb cap next (.slice A0 cs.length c0) xb' cs) := Lib.hid (by
        have h1 := HNX.out
        have h2 := HT.out
        have h3 := HEND.out
        subst h1 h2
        exact HI.out.read HR.out hlW hgW HCUR.out.1 HCUR.out.2.1 HCUR.out.2.2.1 hpb (by omega) (by omega) (by omega) HQ5.out HL5.out HP5.out (Only_of_drew HO5.out))
      have hs1 : (n : Int) + (k : Int) ≤ 9223372036854775807 := by have := HCX.out; omega
      have hs2 : (n : Int) + (k : Int) ≤ (cap : Int) := by omega
      have hs5 : 0 ≤ (k : Int) := by omega
      have hs6 : ((n : Int) + (k : Int)).toNat = n + k := by omega
      clear hkk hkN hkl hk1 HQ5 HL5 HP5 HO5 HK5 HCUR
      obtain ⟨xb', hxl, HI6⟩ := HI5.out
      have HI7 := Lib.hid HI6
      have HXL := Lib.hid hxl
      clear HI5 HI6 hxl HI
      by_cases hmv : (cap : Int) - ((n : Int) + (k : Int)) < (cap : Int) / 16
      · have d1 : decide ((cap : Int) - ((n : Int) + (k : Int)) < (cap : Int) / 16) = true := decide_eq_true hmv
        have HMV := Lib.hid hmv
        obtain ⟨A7, c7, hA7⟩ := Kd.R_slice HI7.out.rb
        have hs7 : f + ((n : Int) + (k : Int)) ≤ 9223372036854775807 := by have h1 := HLE.out; have h2 := HNN.out; have h3 := HK.out; omega
        have hx0 := HI7.out.n0
        have hx1 : next ≤ 4294967296 + 256 := by have h1 := HI7.out.n1; have h2 := HI7.out.leN; have h3 := HNN.out; omega
        have hx2 : 0 ≤ next := by omega
        clear hmv hA7
        go_wp2_with (first
          | ((with_reducible refine gate_builtin (b := .append) (xs := #[.tmp 76, .tmp 78]) rfl ?_)
             at_builtin
             refine Kd.R_append kBs (w0 := W5) (W := W5) W.heap.size rfl (.tmp 76) (.tmp 78) 56 22 (.slice none 0 0) 24 rfl Tryz.underlying56 info_bs rfl (by decide) (by decide) (.slice A0 cs.length c0) cs xb' _ (fun _ => True) (fun k => k = pb) rfl rfl ⟨_, rfl, ?_⟩ ?_ (fun _ _ => trivial) (Kd.R_mono HI7.out.rc (fun _ _ => trivial)) (Below.refl _ _) HI7.out.on.size ?_ ?_
             · have h1 := HI7.out.rb
               rw [HXL.out] at h1
               exact own_int (int_own h1) (fun k hk => by simp [Value.ownBlock] at hk; exact hk.symm)
             · rintro k rfl
               exact ⟨trivial, fun e => HI7.out.rc.1 k e.symm rfl⟩
             · have h1 := HI7.out.cl; have h2 := HI7.out.le; have h3 := HLL.out
               omega
             intro v1 w1 hR1 hb1 hg1 hat1
             have HR1 := Lib.hid hR1
             have HB1 := Lib.hid hb1
             clear hR1 hb1 hg1 hat1)
          | ((with_reducible refine gate_builtin (b := .append) (xs := #[.const (.slice none 0 0), .tmp 84]) rfl ?_)
             at_builtin
             refine Kd.R_append_zeros B8 (w0 := w1) (W := w1) w1.heap.size rfl (.const (.slice none 0 0)) (.tmp 84) 22 3 5 (.int .u8 0) 1 rfl Tryz.underlying22 Tryz.underlying3 info_u8 rfl (by decide) (by decide) (.slice none 0 0) [] 0 next (fun k => w1.heap.size ≤ k) rfl rfl rfl (fun _ h => h) (Kd.R_nil _ _ _ _ _) hx2 (Below.refl _ _) (Nat.le_refl _) (by simp; omega) ?_
             intro v2 w2 hR2 hb2 hg2 hat2
             obtain ⟨A2, c2, hv2⟩ := Kd.R_slice hR2
             obtain ⟨pb2, cap2, hv3, _⟩ := Kd.R_form hR2 (by simp; omega)
             rw [hv3] at hR2 ⊢
             have hzl : ([] ++ List.replicate next.toNat (0 : Int)).length = next.toNat := by simp
             rw [hzl] at hR2 ⊢
             have HR2 := Lib.hid hR2
             have HB2 := Lib.hid hb2
             clear hR2 hb2 hg2 hat2 hv2 hv3 hzl))
        refine ⟨⟨pb2, 0, cap2, next + next / 2, f + ((n : Int) + (k : Int)), [], cs ++ [xb'], rfl, rfl, ?_, rfl, rfl, ?_, Lib.hid (AllI.push (n2 := next.toNat) HR.out HI7.out hlW (Nat.le_trans HB.out (Nat.le_of_lt hlW)) ?_ ?_ HR1.out HB1.out ?_ HR2.out HB2.out)⟩, ?_⟩
        · have h1 := (Kd.R_reads' HR2.out).2.1; simp at h1; omega
        · rw [HF.out]
          have := HXL.out
          simp; omega
        · have h1 := HXL.out; have h2 := HK.out; omega
        · have h1 := HXL.out; have h2 := HMV.out; rw [h1]; push_cast; omega
        · omega
        · simp only [lenOf, intOf]
          have h1 := HLE.out; have h2 := HK.out; have h3 := HEND.out
          omega
      · have d1 : decide ((cap : Int) - ((n : Int) + (k : Int)) < (cap : Int) / 16) = false := decide_eq_false hmv
        have HMV := Lib.hid hmv
        clear hmv
        go_wp2
        refine ⟨⟨pb, n + k, cap, next, f, xb', cs, rfl, HXL.out.symm, ?_, rfl, rfl, HF.out, HI7⟩, ?_⟩
        · have h1 := HMV.out; have h2 := HI7.out.c16; omega
        · simp only [lenOf, intOf]
          have h1 := HLE.out; have h2 := HK.out; have h3 := HEND.out
          omega
    · have hEN : Hid (Calls Tryz.prog 234 #[.pointer (some ⟨lb, 0, none⟩), .slice (some ⟨pb, n, none⟩) (cap - n) (cap - n)] wr.drew fun e w' => e = .returned (.tuple #[.int .i64 0, (.iface 248 (.pointer (some va)))]) ∧ Q w' (l.drop t) ∧ AtLim w' lb T r ((N - t : Nat) : Int) ∧ Only (fun i => i = g ∨ i = lb) wr.drew w') := Lib.hid (by
        by_cases h0 : N - t = 0
        · rw [h0] at hlt ⊢
          refine (lim_zero wr.drew lb _ _ _ hlt _ (show wr.drew.cell? _ = _ from HR.out.eof wr _ hqt)).mono ?_
          rintro e w' ⟨he, rfl⟩
          exact ⟨he, HR.out.keep wr _ _ hqt (fun _ _ => rfl), hlt, (Only.refl _ _).drew⟩
        · have hd : l.drop t = [] := by
            refine List.drop_eq_nil_of_le ?_
            have := HLE.out
            omega
          rw [hd] at hqt ⊢
          exact lim_none HR.out wr.drew lb (N - t) _ pb n _ _ rfl hlt (by omega) (HR.out.keep wr _ _ hqt (fun _ _ => rfl)) (Nat.le_refl _) (by have := HCX.out; omega) (by omega) (by have := HNN.out; omega) HB.out)
      have HFIN : Hid (l.take t = l.take N ∧ l.drop t = l.drop N) := Lib.hid (by
        have h1 := HLE.out
        rcases Nat.lt_or_ge t N with h2 | h2
        · have e1 : t = l.length := by omega
          exact ⟨by rw [List.take_of_length_le (by omega), List.take_of_length_le (by omega)], by rw [List.drop_eq_nil_of_le (by omega), List.drop_eq_nil_of_le (by omega)]⟩
        · have e1 : t = N := by omega
          rw [e1]
          exact ⟨rfl, rfl⟩)
      clear hqt hlt ht hcs hct hcur hf hnx hncap hend
      go_upto_region 5 with fail
      refine start_ (n := 16) (S := fun w' => True) (ds := []) #[nN,nN,nN,nN,nN,nN,nN,nN,nN,nN,nN,nN,nN,nN,nN,nN] (by kernel_rfl) rfl rfl trivial (fun hHeld => ?_)
      refine pure_ (i := 0) (N := some 16) (v := ?_) (a' := ?_) #[yY,nN,nN,nN,nN,nN,nN,nN,nN,nN,nN,nN,nN,nN,nN,nN] rfl rfl (by kernel_rfl) (fun _ _ _ h => h) (Or.inl ⟨by rfl, ?_⟩) ?_ ?_
      rotate_left
      · intro w'
        go_simp
        with_reducible rfl
      rotate_left
      · simp only [Act.put, List.setIfInBounds_toArray, List.set_cons_zero, List.set_cons_succ, i64_w, i32_w]
        rfl
      refine pure_ (i := 1) (N := some 17) (v := ?_) (a' := ?_) #[yY,yY,nN,nN,nN,nN,nN,nN,nN,nN,nN,nN,nN,nN,nN,nN] rfl rfl (by kernel_rfl) (fun _ _ _ h => h) (Or.inl ⟨by rfl, ?_⟩) ?_ ?_
      rotate_left
      · intro w'
        go_simp
        with_reducible rfl
      rotate_left
      · simp only [Act.put, List.setIfInBounds_toArray, List.set_cons_zero, List.set_cons_succ, i64_w, i32_w]
        rfl
      refine pure_ (i := 2) (N := some 18) (v := ?_) (a' := ?_) #[yY,yY,yY,nN,nN,nN,nN,nN,nN,nN,nN,nN,nN,nN,nN,nN] rfl rfl (by kernel_rfl) (fun _ _ _ h => h) (Or.inl ⟨by rfl, ?_⟩) ?_ ?_
      rotate_left
      · intro w'
        go_simp
        with_reducible rfl
      rotate_left
      · simp only [Act.put, List.setIfInBounds_toArray, List.set_cons_zero, List.set_cons_succ, i64_w, i32_w]
        rfl
      refine pure_ (i := 3) (N := some 19) (v := ?_) (a' := ?_) #[yY,yY,yY,yY,nN,nN,nN,nN,nN,nN,nN,nN,nN,nN,nN,nN] rfl rfl (by kernel_rfl) (fun _ _ _ h => h) (Or.inl ⟨by rfl, ?_⟩) ?_ ?_
      rotate_left
      · intro w'
        go_simp
        with_reducible rfl
      rotate_left
      · simp only [Act.put, List.setIfInBounds_toArray, List.set_cons_zero, List.set_cons_succ, i64_w, i32_w]
        rfl
      refine pure_ (i := 4) (N := some 20) (v := ?_) (a' := ?_) #[yY,yY,yY,yY,yY,nN,nN,nN,nN,nN,nN,nN,nN,nN,nN,nN] rfl rfl (by kernel_rfl) (fun _ _ _ h => h) (Or.inl ⟨by rfl, ?_⟩) ?_ ?_
      rotate_left
      · intro w'
        go_simp
        with_reducible rfl
      rotate_left
      · simp only [Act.put, List.setIfInBounds_toArray, List.set_cons_zero, List.set_cons_succ, i64_w, i32_w]
        rfl
      refine pure_ (i := 5) (N := some 21) (v := ?_) (a' := ?_) #[yY,yY,yY,yY,yY,yY,nN,nN,nN,nN,nN,nN,nN,nN,nN,nN] rfl rfl (by kernel_rfl) (fun _ _ _ h => h) (Or.inl ⟨by rfl, ?_⟩) ?_ ?_
      rotate_left
      · intro w'
        go_simp
        with_reducible rfl
      rotate_left
      · simp only [Act.put, List.setIfInBounds_toArray, List.set_cons_zero, List.set_cons_succ, i64_w, i32_w]
        rfl
      refine pure_ (i := 6) (N := some 22) (v := ?_) (a' := ?_) #[yY,yY,yY,yY,yY,yY,yY,nN,nN,nN,nN,nN,nN,nN,nN,nN] rfl rfl (by kernel_rfl) (fun _ _ _ h => h) (Or.inl ⟨by rfl, ?_⟩) ?_ ?_
      rotate_left
      · intro w'
        go_simp
        with_reducible rfl
      rotate_left
      · simp only [Act.put, List.setIfInBounds_toArray, List.set_cons_zero, List.set_cons_succ, i64_w, i32_w]
        rfl
      refine pure_ (i := 7) (N := some 23) (v := ?_) (a' := ?_) #[yY,yY,yY,yY,yY,yY,yY,yY,nN,nN,nN,nN,nN,nN,nN,nN] rfl rfl (by kernel_rfl) (fun _ _ _ h => h) (Or.inl ⟨by rfl, ?_⟩) ?_ ?_
      rotate_left
      · intro w'
        go_simp
        with_reducible rfl
      rotate_left
      · simp only [Act.put, List.setIfInBounds_toArray, List.set_cons_zero, List.set_cons_succ, i64_w, i32_w]
        rfl
      refine pure_ (i := 8) (N := some 24) (v := ?_) (a' := ?_) #[yY,yY,yY,yY,yY,yY,yY,yY,yY,nN,nN,nN,nN,nN,nN,nN] rfl rfl (by kernel_rfl) (fun _ _ _ h => h) (Or.inl ⟨by rfl, ?_⟩) ?_ ?_
      rotate_left
      · intro w'
        go_simp
        with_reducible rfl
      rotate_left
      · simp only [Act.put, List.setIfInBounds_toArray, List.set_cons_zero, List.set_cons_succ, i64_w, i32_w]
        rfl
      refine pure_ (i := 9) (N := some 25) (v := ?_) (a' := ?_) #[yY,yY,yY,yY,yY,yY,yY,yY,yY,yY,nN,nN,nN,nN,nN,nN] rfl rfl (by kernel_rfl) (fun _ _ _ h => h) (Or.inl ⟨by rfl, ?_⟩) ?_ ?_
      rotate_left
      · intro w'
        go_simp
        with_reducible rfl
      rotate_left
      · simp only [Act.put, List.setIfInBounds_toArray, List.set_cons_zero, List.set_cons_succ, i64_w, i32_w]
        rfl
      refine one_ (i := 10) (N := some 26) #[yY,yY,yY,yY,yY,yY,yY,yY,yY,yY,yY,nN,nN,nN,nN,nN] rfl rfl (by kernel_rfl) (by decide) (fun K hK => ?_)
      refine call_ 234 #[.pointer (some ⟨lb, 0, none⟩), .slice (some ⟨pb, n, none⟩) (cap - n) (cap - n)] (by rfl) rfl ?_ ?_
      · have hm1 := HM.out
        have hcf1 := HCF.out
        simp [execOp, resolve, invoke, Act.eval, hm1, hcf1, go_sem]
      with_reducible refine hEN.out.mono ?_
      rintro e W5 ⟨rfl, hQ5, hL5, hO5⟩
      refine ⟨_, rfl, ?_⟩
      have HQ5 := Lib.hid hQ5
      have HL5 := Lib.hid hL5
      have HO5 := Lib.hid hO5
      clear hQ5 hL5 hO5
      refine hK.out _ _ trivial (fun hHeld => ?_)
      clear hK K
      refine norm_ (a' := ?_) ?_ ?_
      rotate_left
      · show Act.put _ (some 26) _ = _
        simp only [Act.put, List.setIfInBounds_toArray, List.set_cons_zero, List.set_cons_succ, i64_w, i32_w]
        rfl
      refine pure_ (i := 11) (N := some 15) (v := ?_) (a' := ?_) #[yY,yY,yY,yY,yY,yY,yY,yY,yY,yY,yY,yY,nN,nN,nN,nN] rfl rfl (by kernel_rfl) (fun _ _ _ h => h) (Or.inl ⟨by rfl, ?_⟩) ?_ ?_
      rotate_left
      · intro w'
        go_simp
        with_reducible rfl
      rotate_left
      · simp only [Act.put, List.setIfInBounds_toArray, List.set_cons_zero, List.set_cons_succ, i64_w, i32_w]
        rfl
      refine pure_ (i := 12) (N := some 27) (v := ?_) (a' := ?_) #[yY,yY,yY,yY,yY,yY,yY,yY,yY,yY,yY,yY,yY,nN,nN,nN] rfl rfl (by kernel_rfl) (fun _ _ _ h => h) (Or.inl ⟨by rfl, ?_⟩) ?_ ?_
      rotate_left
      · intro w'
        go_simp
        with_reducible rfl
      rotate_left
      · simp only [Act.put, List.setIfInBounds_toArray, List.set_cons_zero, List.set_cons_succ, i64_w, i32_w]
        rfl
      refine pure_ (i := 13) (N := some 28) (v := ?_) (a' := ?_) #[yY,yY,yY,yY,yY,yY,yY,yY,yY,yY,yY,yY,yY,yY,nN,nN] rfl rfl (by kernel_rfl) (fun _ _ _ h => h) (Or.inl ⟨by rfl, ?_⟩) ?_ ?_
      rotate_left
      · intro w'
        go_simp
        with_reducible rfl
      rotate_left
      · simp only [Act.put, List.setIfInBounds_toArray, List.set_cons_zero, List.set_cons_succ, i64_w, i32_w]
        rfl
      refine pure_ (i := 14) (N := some 8) (v := ?_) (a' := ?_) #[yY,yY,yY,yY,yY,yY,yY,yY,yY,yY,yY,yY,yY,yY,yY,nN] rfl rfl (by kernel_rfl) (fun _ _ _ h => h) (Or.inl ⟨by rfl, ?_⟩) ?_ ?_
      rotate_left
      · intro w'
        go_simp
        with_reducible rfl
      rotate_left
      · simp only [Act.put, List.setIfInBounds_toArray, List.set_cons_zero, List.set_cons_succ, i64_w, i32_w]
        rfl
      refine pure_ (i := 15) (N := some 9) (v := ?_) (a' := ?_) #[yY,yY,yY,yY,yY,yY,yY,yY,yY,yY,yY,yY,yY,yY,yY,yY] rfl rfl (by kernel_rfl) (fun _ _ _ h => h) (Or.inl ⟨by rfl, ?_⟩) ?_ ?_
      rotate_left
      · intro w'
        go_simp
        with_reducible rfl
      rotate_left
      · simp only [Act.put, List.setIfInBounds_toArray, List.set_cons_zero, List.set_cons_succ, i64_w, i32_w]
        rfl
      refine done_ (by kernel_rfl) ?_

      have HI5 := Lib.hid (AllI.still HR.out HI.out hlW hgW (by rw [← HT.out]; exact HQ5.out) (by rw [← HT.out]; exact HL5.out) (Only_of_drew HO5.out))
      have he := HR.out.eof _ _ HQ5.out
      have hql := eql_same va W5
      have hn9 : (n : Int) ≤ 9223372036854775807 := by omega
      clear HI HQ5 HL5 HO5 hEN
      by_cases hcs0 : cs.length = 0
      · have d2 : ((cs.length : Int) == 0) = true := by simp [List.eq_nil_of_length_eq_zero hcs0]
        obtain ⟨m0, hm0⟩ : ∃ m0, m0 = cs.length := ⟨_, rfl⟩
        rw [← hm0] at d2 ⊢
        have HC0 := Lib.hid (And.intro hcs0 hm0)
        clear hcs0 hm0
        go_wp2
        go_ret2
        have hcn : cs = [] := List.eq_nil_of_length_eq_zero HC0.out.1
        have h1 := HI5.out.rb
        have h2 := HI5.out.pre
        have h3 := HI5.out.q
        rw [← HT.out] at h2 h3
        rw [hcn, List.flatten_nil, List.nil_append] at h2
        rw [← HNX.out, h2, HFIN.out.1] at h1
        rw [HFIN.out.2] at h3
        exact ⟨_, rfl, h1, h3, HI5.out.on⟩
      · have d2 : ((cs.length : Int) == 0) = false := by
          cases h : ((cs.length : Int) == 0) with
          | false => rfl
          | true => exact absurd (by simpa using h) hcs0
        have d3 : (cs.length == 0) = false := by
          cases h : (cs.length == 0) with
          | false => rfl
          | true => exact absurd (by simpa using h) hcs0
        have HCP : Hid (1 ≤ cs.length) := Lib.hid (by omega)
        have hfn0 : 0 ≤ f + (n : Int) := by omega
        have hfn1 : f + (n : Int) ≤ 4294967296 := by have h1 := HLE.out; have h2 := HNN.out; omega
        have hfn2 : f + (n : Int) ≤ 9223372036854775807 := by omega
        have hcl : (cs.length : Int) ≤ 9223372036854775807 := by have h1 := HI5.out.cl; have h2 := HI5.out.le; have h3 := HLL.out; omega
        have HFP : Hid (1 ≤ f + (n : Int)) := Lib.hid (by have h1 := HF.out; have h2 := HI5.out.cl; omega)
        clear hcs0
        go_wp2_with ((with_reducible refine gate_builtin (b := .append) (xs := #[.const (.slice none 0 0), .tmp 49]) rfl ?_)
                     at_builtin
                     refine Kd.R_append_zeros B8 (w0 := W5) (W := W5) W5.heap.size rfl (.const (.slice none 0 0)) (.tmp 49) 22 3 5 (.int .u8 0) 1 rfl Tryz.underlying22 Tryz.underlying3 info_u8 rfl (by decide) (by decide) (.slice none 0 0) [] 0 (f + (n : Int)) (fun k => W5.heap.size ≤ k) rfl rfl rfl (fun _ h => h) (Kd.R_nil _ _ _ _ _) hfn0 (Below.refl _ _) (Nat.le_refl _) (by simp; omega) ?_
                     intro v2 w2 hR2 hb2 hg2 hat2
                     obtain ⟨pb2, cap2, hv3, _⟩ := Kd.R_form hR2 (by have := HFP.out; simp; omega)
                     rw [hv3] at hR2 ⊢
                     have h0 := Kd.R_take (m := 0) hR2 (Nat.zero_le _)
                     rw [List.take_zero] at h0
                     have HR2 := Lib.hid h0
                     have HB2 := Lib.hid hb2
                     clear hR2 hb2 hg2 hat2 hv3 h0)
        go_loopw [10, 54] (fun fin i wr2 => ∃ k : Nat, k ≤ cs.length ∧ i = .int .i64 k ∧ Hid (Below W5.heap.size W5 wr2 ∧ B8.R 5 wr2 W5.heap.size (fun k => W5.heap.size ≤ k) fin (cs.take k).flatten)) (fun _ i _ => cs.length - (intOf i).toNat)
        case atStart => exact ⟨0, Nat.zero_le _, rfl, Lib.hid ⟨HB2.out, HR2.out⟩⟩
        case round =>
          obtain ⟨k, hk, rfl, HP⟩ := hrel
          obtain ⟨Af, cf, hfe⟩ := Kd.R_slice HP.out.2
          have HPF := Lib.hid hfe
          clear hfe
          have HFL : Hid ((cs.take k).flatten.length + (cs.drop k).flatten.length = cs.flatten.length) := Lib.hid (by
            have := congrArg List.length (congrArg List.flatten (List.take_append_drop k cs))
            simpa only [List.flatten_append, List.length_append] using this)
          by_cases hlt2 : k < cs.length
          · obtain ⟨ad, Ak, ck, hA, hcell, hC⟩ := chunk_at HI5.out.rc hlt2
            subst hA
            replace hcell := (HP.out.1.cell (World.block_lt_of_cell? W5 _ hcell)).trans hcell
            have HC := Lib.hid (Kd.C_below hC HP.out.1)
            have HST : Hid ((cs.take (k + 1)).flatten = (cs.take k).flatten ++ cs[k]) := Lib.hid (by rw [List.take_succ_eq_append_getElem hlt2, List.flatten_append]; simp)
            have HLK : Hid ((cs.take k).flatten.length + cs[k].length ≤ cs.flatten.length) := Lib.hid (by
              have h1 := HFL.out
              rw [List.drop_eq_getElem_cons hlt2, List.flatten_cons, List.length_append] at h1
              omega)
            obtain ⟨ys, hys⟩ : ∃ ys, ys = cs[k] := ⟨_, rfl⟩
            rw [← hys] at hcell HC HST HLK
            obtain ⟨acc, hacc⟩ : ∃ acc, acc = (cs.take k).flatten := ⟨_, rfl⟩
            rw [← hacc] at HP HST HLK HPF
            clear hC hys hacc HFL
            go_wp2_with ((with_reducible refine gate_builtin (b := .append) (xs := #[.tmp 58, .tmp 59]) rfl ?_)
                         at_builtin
                         refine Kd.R_append_row (Value.int .u8) (0 : Int) (w0 := W5) (W := wr) W5.heap.size rfl (.tmp 58) (.tmp 59) 22 5 (.int .u8 0) 1 rfl Tryz.underlying22 info_u8 rfl (by decide) _ acc ys Ak ys.length ck (fun k => W5.heap.size ≤ k) rfl rfl ?_ HP.out.2 HC.out HP.out.1 HP.out.1.size ?_ ?_
                         · exact fun k hk => Nat.le_trans HP.out.1.size hk
                         · have h1 := HLK.out; have h2 := HI5.out.le; have h3 := HLL.out
                           omega
                         intro v3 w3 hR3 hb3 hg3 hat3
                         have HR3 := Lib.hid hR3
                         have HB3 := Lib.hid hb3
                         clear hR3 hb3 hg3 hat3)
            exact ⟨⟨k + 1, hlt2, by first | rfl | go_num, Lib.hid ⟨HB3.out, by rw [HST.out]; exact HR3.out⟩⟩, by simp [intOf]; omega⟩
          · obtain rfl : k = cs.length := by omega
            obtain ⟨Ab, cb, hb1, hb2, hb3⟩ := Kd.R_reads HI5.out.rb
            injection hb1 with hb1 hb4 hb5
            have HC := Lib.hid (Kd.C_below hb3 HP.out.1)
            rw [← hb1] at HC
            obtain ⟨m2, hm2⟩ : ∃ m2, m2 = cs.length := ⟨_, rfl⟩
            have HM2 := Lib.hid hm2
            clear hb1 hb2 hb3 hb4 hb5 hm2
            go_wp2_with ((with_reducible refine gate_builtin (b := .append) (xs := #[.tmp 62, .tmp 63]) rfl ?_)
                         at_builtin
                         refine Kd.R_append_row (Value.int .u8) (0 : Int) (w0 := W5) (W := wr) W5.heap.size rfl (.tmp 62) (.tmp 63) 22 5 (.int .u8 0) 1 rfl Tryz.underlying22 info_u8 rfl (by decide) _ (cs.take cs.length).flatten xb (some ⟨pb, 0, none⟩) n cap (fun k => W5.heap.size ≤ k) rfl rfl ?_ HP.out.2 ?_ HP.out.1 HP.out.1.size ?_ ?_
                         · exact fun k hk => Nat.le_trans HP.out.1.size hk
                         · rw [HNX.out]; exact HC.out
                         · have h1 := HNX.out; have h2 := HI5.out.le; have h3 := HLL.out
                           rw [List.take_length]
                           omega
                         intro v3 w3 hR3 hb3 hg3 hat3
                         have HR3 := Lib.hid hR3
                         have HB3 := Lib.hid hb3
                         clear hR3 hb3 hg3 hat3)
            go_ret2
            have h1 := HR3.out
            have h2 := HI5.out.pre
            have h3 := HI5.out.q
            have hs := HI5.out.on.size
            rw [← HT.out] at h2 h3
            rw [List.take_length, h2, HFIN.out.1] at h1
            rw [HFIN.out.2] at h3
            exact ⟨_, rfl, Kd.R_mono (Kd.R_lower h1 hs) (fun _ _ => trivial), HR.out.keep W5 w3 _ h3 (fun b hb => HB3.out.block b (by have := HB.out; omega)), HI5.out.on.trans (Only.of_below (fun i => i = g ∨ i = lb) HB3.out) (fun i _ h => h)⟩
end
end Go.Proofs.YteockihoefbmdaaGreatDoor.Ber
namespace Go.Proofs.YteockihoefbmdaaGreatDoor.Ber
open Go.RowKit Go.Proofs.YteockihoefbmdaaGreatDoorW.PrintWords Go.Proofs.YteockihoefbmdaaGreatDoor.Buf Go.Proofs.YteockihoefbmdaaGreatDoor.Pk Go.Proofs.YteockihoefbmdaaGreatDoor.Num Go.Proofs.YteockihoefbmdaaGreatDoor.Ident Go.Proofs.YteockihoefbmdaaGreatDoor.Tree Go.Proofs.YteockihoefbmdaaGreatDoor.PFnEncode
set_option linter.unusedVariables false
set_option linter.unusedSimpArgs false

/-- the kid at a place of a row that is told by its block -/
theorem kid_at0 {w : World} {base : Nat} {ok : Nat → Prop} {v : Value} {xs : List Pk} (h : kPk.R TP w base ok v xs) {k : Nat} (hk : k < xs.length) :
    ∃ g cap q, v = .slice (some ⟨g, 0, none⟩) xs.length cap ∧ w.cell? ⟨g, k, none⟩ = some (.pointer (some ⟨q, 0, none⟩)) ∧ IsPk w base ok q xs[k] := by
  obtain ⟨h0, inner, ho, hr⟩ := h
  have hsz : kPk.sz = 1 := rfl
  rw [hsz] at ho hr
  obtain ⟨hl, ho⟩ := ho
  rcases ho with ⟨_, hn⟩ | ⟨g, cap, cur, rfl, hg, hcur, hc1, hc2, hc3, hc4⟩
  · omega
  · have hM := hr.2 k _ (List.getElem?_eq_getElem hk)
    rw [Nat.mul_one] at hM
    obtain ⟨hv, q, db, v', bv, cv, lr, e, hrest⟩ := open_M hM
    refine ⟨g, cap, q, rfl, ?_, ?_⟩
    · have h1 : inner[k]? = some (.pointer (some ⟨q, 0, none⟩)) := by
        have := congrArg (fun l => l[0]?) e
        simp only [List.getElem?_take_of_lt (show 0 < 1 by decide), List.getElem?_drop] at this
        simpa using this
      rw [← hc4, Nat.mul_one, List.getElem?_take_of_lt hk, Array.getElem?_toList] at h1
      have := blk_cell hcur k
      rw [h1] at this
      exact this
    · rw [e] at hM
      exact kPk.M_mono (fun k hk => hk.1) hM
end Go.Proofs.YteockihoefbmdaaGreatDoor.Ber

namespace Go.Proofs.YteockihoefbmdaaGreatDoor.Ber
open Go.RowKit Go.Proofs.YteockihoefbmdaaGreatDoorW.PrintWords Go.Proofs.YteockihoefbmdaaGreatDoor.Buf Go.Proofs.YteockihoefbmdaaGreatDoor.Pk Go.Proofs.YteockihoefbmdaaGreatDoor.Num Go.Proofs.YteockihoefbmdaaGreatDoor.Ident
set_option linter.unusedVariables false
set_option linter.unusedSimpArgs false

/-- a packet with a child more -/
def addK (x y : Pk) : Pk := { x with data := x.data ++ pkBytes (y.cls / 64) y.tag (decide (y.typ = 32)) y.data, kids := x.kids ++ [y] }

/-- what may become a child -/
structure Top (y : Pk) (n : Nat) : Prop where
  c0 : 0 ≤ y.cls
  c1 : y.cls ≤ 192
  cm : y.cls % 64 = 0
  ty : y.typ = 0 ∨ y.typ = 32
  t0 : 0 ≤ y.tag
  t1 : y.tag < 268435456
  ln : y.data.length ≤ n
  nk : y.kids.length ≤ n

end Go.Proofs.YteockihoefbmdaaGreatDoor.Ber

namespace Go.Proofs.YteockihoefbmdaaGreatDoor.Ber
open Go.RowKit Go.Proofs.YteockihoefbmdaaGreatDoorW.PrintWords Go.Proofs.YteockihoefbmdaaGreatDoor.Buf Go.Proofs.YteockihoefbmdaaGreatDoor.Pk
set_option linter.unusedVariables false
set_option linter.unusedSimpArgs false

end Go.Proofs.YteockihoefbmdaaGreatDoor.Ber
namespace Go.Proofs.YteockihoefbmdaaGreatDoor.Ber
open Go.RowKit Go.Proofs.YteockihoefbmdaaGreatDoorW.PrintWords Go.Proofs.YteockihoefbmdaaGreatDoor.Buf Go.Proofs.YteockihoefbmdaaGreatDoor.Pk Go.Proofs.YteockihoefbmdaaGreatDoor.Num
set_option linter.unusedVariables false
set_option linter.unusedSimpArgs false

/-- the number that bytes are, without a sign -/
def uv : List Int → Int := List.foldl (fun u b => u * 256 + b) 0
theorem uv_snoc (l : List Int) (b : Int) : uv (l ++ [b]) = uv l * 256 + b := by simp [uv]

theorem uv_bound (l : List Int) (n : Nat) : l.length ≤ n → (∀ y ∈ l, 0 ≤ y ∧ y < 256) → 0 ≤ uv l ∧ uv l < 256 ^ n := by
  induction n generalizing l with
  | zero =>
    intro hl _
    have : l = [] := List.eq_nil_of_length_eq_zero (by omega)
    subst this
    simp [uv]
  | succ n ih =>
    intro hl hb
    rcases List.eq_nil_or_concat l with rfl | ⟨l', b, rfl⟩
    · have : (0 : Int) < 256 ^ (n + 1) := Int.pow_pos (by omega)
      simp only [uv, List.foldl_nil]
      omega
    · rw [List.concat_eq_append] at hl hb ⊢
      rw [uv_snoc, Int.pow_succ]
      have h1 := ih l' (by simp at hl; omega) (fun y hy => hb y (by simp [hy]))
      have h2 := hb b (by simp)
      omega

/-- the number that bytes are, in two's complement -/
def sv (l : List Int) : Int := if uv l < 128 * 256 ^ (l.length - 1) then uv l else uv l - 256 ^ l.length

theorem or_low (M b : Nat) (hM : M < 18446744073709551616) (h8 : M % 256 = 0) (hb : b < 256) : Go.bits .or .i64 (wrap64 (M : Int)) (b : Int) = wrap64 ((M : Int) + (b : Int)) := by
  show IntKind.i64.wrap ((BitVec.ofInt 64 (wrap64 (M : Int)) ||| BitVec.ofInt 64 (b : Int)).toNat : Int) = _
  rw [BitVec.toNat_or, BitVec.toNat_ofInt, BitVec.toNat_ofInt]
  have e0 : ((2 ^ 64 : Nat) : Int) = 18446744073709551616 := by decide
  rw [e0]
  have e1 : (wrap64 (M : Int) % 18446744073709551616).toNat = M := by unfold wrap64; omega
  have e2 : ((b : Int) % 18446744073709551616).toNat = b := by omega
  rw [e1, e2]
  have hq : M = 2 ^ 8 * (M / 256) := by omega
  have e3 : M ||| b = M + b := by
    conv => lhs; rw [hq]
    rw [← Nat.two_pow_add_eq_or_of_lt (show b < 2 ^ 8 by omega) (M / 256)]
    omega
  rw [e3, IntKind.wrap_i64]
  unfold wrap64
  push_cast
  rfl

theorem step_or (u b : Int) (h0 : 0 ≤ u) (h1 : u < 72057594037927936) (hb0 : 0 ≤ b) (hb1 : b < 256) : Go.bits .or .i64 (wrap64 (wrap64 u * 256)) (wrap64 b) = wrap64 (u * 256 + b) := by
  have e1 : wrap64 u = u := by unfold wrap64; omega
  have e2 : wrap64 b = b := by unfold wrap64; omega
  rw [e1, e2]
  obtain ⟨U, rfl⟩ := Int.eq_ofNat_of_zero_le h0
  obtain ⟨B, rfl⟩ := Int.eq_ofNat_of_zero_le hb0
  have := or_low (U * 256) B (by omega) (by omega) (by omega)
  simpa using this

/-- the two shifts at the end -/
theorem shifts (u : Int) (n : Nat) (hn : n ≤ 8) (h0 : 0 ≤ u) (h1 : u < 256 ^ n) : wrap64 (wrap64 u * 2 ^ (64 - n * 8)) / 2 ^ (64 - n * 8) = if u < 128 * 256 ^ (n - 1) then u else u - 256 ^ n := by
  unfold wrap64
  have hc : n = 0 ∨ n = 1 ∨ n = 2 ∨ n = 3 ∨ n = 4 ∨ n = 5 ∨ n = 6 ∨ n = 7 ∨ n = 8 := by omega
  rcases hc with rfl | rfl | rfl | rfl | rfl | rfl | rfl | rfl | rfl <;> simp only [Nat.reduceMul, Nat.reduceSub, Int.reducePow, Int.reduceMul] at h1 ⊢ <;> (try split) <;> omega

set_option maxHeartbeats 3200000 in
set_option maxRecDepth 100000 in
theorem parse_any (xs : List Int) (A : Option Addr) (c : Nat) (w : World) (hr : B8.C w A xs.length xs) (h8 : xs.length ≤ 8) (hb : ∀ y ∈ xs, 0 ≤ y ∧ y < 256) :
    Calls Tryz.prog 89 #[.slice A xs.length c] w fun e w' => e = .returned (.tuple #[.int .i64 (sv xs), .nilIface]) ∧ w = w' := by
  obtain ⟨n, hn⟩ : ∃ n, n = xs.length := ⟨_, rfl⟩
  have hsv : Hid (wrap64 (wrap64 (uv xs) * 2 ^ (64 - n * 8)) / 2 ^ (64 - n * 8) = sv xs) := by
    show _ = sv xs
    have hu := uv_bound xs n (by omega) hb
    rw [shifts _ _ (by omega) hu.1 hu.2]
    unfold sv
    rw [hn]
  have hbd : Hid (∀ k, k < n → (0 ≤ uv (xs.take k) ∧ uv (xs.take k) < 72057594037927936) ∧ 0 ≤ rd xs (k : Int) ∧ rd xs (k : Int) < 256 ∧ uv (xs.take (k + 1)) = uv (xs.take k) * 256 + rd xs (k : Int)) := by
    intro k hk
    have hk' : k < xs.length := by omega
    have e : rd xs (k : Int) = xs[k] := by simp [rd, List.getD_eq_getElem?_getD, List.getElem?_eq_getElem hk']
    have hu := uv_bound (xs.take k) 7 (by rw [List.length_take]; omega) (fun y hy => hb y (List.mem_of_mem_take hy))
    have h7 : (256 : Int) ^ 7 = 72057594037927936 := by decide
    have hy := hb xs[k] (List.getElem_mem hk')
    refine ⟨⟨hu.1, by omega⟩, by omega, by omega, ?_⟩
    rw [e, ← uv_snoc, List.take_succ_eq_append_getElem hk']
  rw [← hn] at h8 ⊢
  rw [← hsv.out]
  go_enter Tryz.func89, Tryz.ntmps89
  have HN := Lib.hid hn
  have HB := Lib.hid hb
  clear hn hb
  go_wp2
  go_loop [2, 4] (fun r i => ∃ (k : Nat) (u : Int), k ≤ n ∧ i = .int .i64 k ∧ r = .int .i64 (wrap64 u) ∧ Hid (u = uv (xs.take k))) (fun _ i => n - (intOf i).toNat)
  case atStart => exact ⟨0, 0, Nat.zero_le _, rfl, (show Value.int .i64 0 = Value.int .i64 (wrap64 0) from congrArg (Value.int .i64) (by unfold wrap64; omega)), rfl⟩
  case round =>
    obtain ⟨k, u, hk, rfl, rfl, HU⟩ := hrel
    by_cases hlt : k < n
    · obtain ⟨a, hA, hcell⟩ := Kd.at_int hr (k : Int) (by omega) (by have := HN.out; omega)
      subst hA
      rw [Int.toNat_natCast] at hcell
      go_wp2
      go_round
      case rel =>
        obtain ⟨⟨b1, b2⟩, b3, b4, b5⟩ := hbd.out k hlt
        refine ⟨k + 1, u * 256 + rd xs (k : Int), by omega, by go_num, ?_, ?_⟩
        · rw [← HU.out] at b1 b2
          rw [step_or u _ b1 b2 b3 b4]
        · show _ = uv _
          rw [b5, HU.out]
      case measure => simp [intOf]; omega
    · obtain rfl : k = n := by omega
      have hu : u = uv xs := by rw [HU.out, HN.out, List.take_length]
      clear HU
      subst hu
      go_wp2
      go_ret2
      exact ⟨rfl, rfl⟩
end Go.Proofs.YteockihoefbmdaaGreatDoor.Ber
