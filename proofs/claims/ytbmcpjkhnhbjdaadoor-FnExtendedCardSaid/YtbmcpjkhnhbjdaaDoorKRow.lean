/- A row of packets that grows: its cells are the call's own, what the packets lead to is only read. -/
import Derived.Test.YtbmcpjkhnhbjdaaDoorSpecB
import Derived.Deep.RegionLaw
import Derived.Deep.DrawnRows
namespace Go.Proofs.YtbmcpjkhnhbjdaaDoor.Ber
open Go.RowKit Go.Proofs.YtbmcpjkhnhbjdaaDoorW.PrintWords Go.Proofs.YtbmcpjkhnhbjdaaDoor.PFnEncode Go.Proofs.YtbmcpjkhnhbjdaaDoor.Buf Go.Proofs.YtbmcpjkhnhbjdaaDoor.Pk Go.Proofs.YtbmcpjkhnhbjdaaDoor.Within Go.Proofs.YtbmcpjkhnhbjdaaDoor.Num
set_option linter.unusedVariables false
set_option linter.unusedSimpArgs false

/-- five cells, as they are -/
def raw5 : Kd (List Value) where
  sz := 5
  E := []
  K := fun _ x cs => cs = x ∧ x.length = 5 ∧ ∀ u ∈ x, u.oneCell' = true
  M := fun _ _ _ x cs => cs = x ∧ x.length = 5 ∧ ∀ u ∈ x, u.oneCell' = true
  K_len := fun h => by rw [h.1]; exact h.2.1
  K_one := fun h u hu => by rw [h.1] at hu; exact h.2.2 u hu
  K_below := fun _ h => h
  K_of_M := fun h => h
  M_mono := fun _ h => h
  M_bound := fun h => h
  M_move := fun _ h => h
  M_lower := fun _ h => h

theorem raw5_mk (x : S33) (A3 : Option Addr) (c3 : Nat) (A4 : Option Addr) (c4 : Nat) (w : World) (base : Nat) (ok : Nat → Prop) : raw5.M w base ok (cellsP x A3 c3 A4 c4) (cellsP x A3 c3 A4 c4) := by
  refine ⟨rfl, rfl, fun u hu => ?_⟩
  simp only [cellsP, List.mem_cons, List.not_mem_nil, or_false] at hu
  rcases hu with rfl | rfl | rfl | rfl | rfl <;> rfl

/-- a packet that can be laid into a block, its memory in these blocks -/
def LiesO (ok : Nat → Prop) (W : World) (x : S33) (A3 : Option Addr) (c3 : Nat) (A4 : Option Addr) (c4 : Nat) : Prop :=
  x.f3.length ≤ c3 ∧ Kd.F (Kd.int .u8) W ok A3 x.f3.length x.f3 ∧ x.f4.length ≤ c4 ∧ Kd.F k33 W ok A4 x.f4.length x.f4
theorem Lies.o {b : Nat} {W : World} {x : S33} {A3 : Option Addr} {c3 : Nat} {A4 : Option Addr} {c4 : Nat} (h : Lies b W x A3 c3 A4 c4) : LiesO (fun k => b ≤ k ∧ k < W.heap.size) W x A3 c3 A4 c4 := ⟨h.1, Kd.F_bound h.2.1, h.2.2.1, Kd.F_bound h.2.2.2⟩
theorem LiesO.mono {ok ok' : Nat → Prop} {W : World} {x : S33} {A3 : Option Addr} {c3 : Nat} {A4 : Option Addr} {c4 : Nat} (h : LiesO ok W x A3 c3 A4 c4) (hk : ∀ k, ok k → ok' k) : LiesO ok' W x A3 c3 A4 c4 := ⟨h.1, Kd.F_mono h.2.1 hk, h.2.2.1, Kd.F_mono h.2.2.2 hk⟩
theorem LiesO.below {ok : Nat → Prop} {W W' : World} {x : S33} {A3 : Option Addr} {c3 : Nat} {A4 : Option Addr} {c4 : Nat} (h : LiesO ok W x A3 c3 A4 c4) (hb : Below W.heap.size W W') : LiesO ok W' x A3 c3 A4 c4 := ⟨h.1, Kd.F_below h.2.1 hb, h.2.2.1, Kd.F_below h.2.2.2 hb⟩
theorem LiesO.step {ok : Nat → Prop} {W W' : World} {x : S33} {A3 : Option Addr} {c3 : Nat} {A4 : Option Addr} {c4 : Nat} (h : LiesO ok W x A3 c3 A4 c4) (hb : ∀ k, ok k → k < W.heap.size → W'.heap[k]? = W.heap[k]?) : LiesO ok W' x A3 c3 A4 c4 := ⟨h.1, Kd.F_step h.2.1 hb, h.2.2.1, Kd.F_step h.2.2.2 hb⟩
theorem LiesO.after {ok : Nat → Prop} {W W' : World} {v v1 : Value} {x : S33} {A3 : Option Addr} {c3 : Nat} {A4 : Option Addr} {c4 : Nat} (h : LiesO (fun k => ok k ∧ some k ≠ v.ownBlock) W x A3 c3 A4 c4) (hg : W.grownBy W' v.ownBlock) (hat : v1.ownBlock = v.ownBlock ∨ ∃ b, v1.ownBlock = some b ∧ W.heap.size ≤ b) : LiesO (fun k => ok k ∧ some k ≠ v1.ownBlock) W' x A3 c3 A4 c4 :=
  ⟨h.1, Kd.F_after h.2.1 hg hat, h.2.2.1, Kd.F_after h.2.2.2 hg hat⟩

/-- a row of packets: the cells cs -/
structure KRow (b : Nat) (okr : Nat → Prop) (W : World) (v : Value) (l : List S33) (cs : List (List Value)) : Prop where
  row : raw5.R 33 W b okr v cs
  len : cs.length = l.length
  el : ∀ (j : Nat) x c, l[j]? = some x → cs[j]? = some c → ∃ A3 c3 A4 c4, c = cellsP x A3 c3 A4 c4 ∧ LiesO (fun k => (b ≤ k ∧ okr k) ∧ some k ≠ v.ownBlock) W x A3 c3 A4 c4

theorem krow_nil (b : Nat) (okr : Nat → Prop) (W : World) : KRow b okr W (.slice none 0 0) [] [] := ⟨Kd.R_nil _ _ _ _ _, rfl, fun j x c h => by simp at h⟩
theorem KRow.below {b : Nat} {okr : Nat → Prop} {W W' : World} {v : Value} {l : List S33} {cs : List (List Value)} (h : KRow b okr W v l cs) (hb : Below W.heap.size W W') : KRow b okr W' v l cs :=
  ⟨Kd.R_below h.row hb, h.len, fun j x c h1 h2 => by
    obtain ⟨A3, c3, A4, c4, hc, hl⟩ := h.el j x c h1 h2
    exact ⟨A3, c3, A4, c4, hc, hl.below hb⟩⟩
theorem KRow.far {b : Nat} {okr : Nat → Prop} {W : World} {v : Value} {l : List S33} {cs : List (List Value)} (h : KRow b okr W v l cs) {p : Addr} (hp : ∀ k, okr k → k ≠ p.block) (u : Value) : KRow b okr (W.setCell p u) v l cs :=
  ⟨Kd.R_far h.row hp u, h.len, fun j x c h1 h2 => by
    obtain ⟨A3, c3, A4, c4, hc, hl⟩ := h.el j x c h1 h2
    exact ⟨A3, c3, A4, c4, hc, hl.step (fun k hk _ => Below.heap_setCell W p u k (hp k hk.1.2))⟩⟩
/-- one more -/
theorem KRow.app {b : Nat} {okr : Nat → Prop} {W W' : World} {v v1 : Value} {l : List S33} {cs : List (List Value)} (h : KRow b okr W v l cs) {x : S33} {A3 : Option Addr} {c3 : Nat} {A4 : Option Addr} {c4 : Nat} (hx : LiesO (fun k => (b ≤ k ∧ okr k) ∧ some k ≠ v.ownBlock) W x A3 c3 A4 c4)
    (hR : raw5.R 33 W' b okr v1 (cs ++ [cellsP x A3 c3 A4 c4])) (hg : W.grownBy W' v.ownBlock) (hat : v1.ownBlock = v.ownBlock ∨ ∃ b, v1.ownBlock = some b ∧ W.heap.size ≤ b) :
    KRow b okr W' v1 (l ++ [x]) (cs ++ [cellsP x A3 c3 A4 c4]) := by
  refine ⟨hR, by rw [List.length_append, List.length_append, h.len]; rfl, fun j y c h1 h2 => ?_⟩
  rcases Nat.lt_or_ge j l.length with hj | hj
  · rw [List.getElem?_append_left hj] at h1
    rw [List.getElem?_append_left (by rw [h.len]; exact hj)] at h2
    obtain ⟨A3', c3', A4', c4', hc, hl⟩ := h.el j y c h1 h2
    exact ⟨A3', c3', A4', c4', hc, hl.after hg hat⟩
  · rw [List.getElem?_append_right hj] at h1
    rw [List.getElem?_append_right (by rw [h.len]; exact hj)] at h2
    have hj0 : j - l.length = 0 := by
      have := (List.getElem?_eq_some_iff.1 h1).1
      simp at this
      omega
    rw [h.len, hj0] at h2
    rw [hj0] at h1
    have e1 : x = y := by simpa using h1
    have e2 : cellsP x A3 c3 A4 c4 = c := by simpa using h2
    subst e1
    subst e2
    exact ⟨A3, c3, A4, c4, rfl, hx.after hg hat⟩
/-- the row read -/
theorem KRow.read {b : Nat} {okr : Nat → Prop} {W : World} {v : Value} {l : List S33} {cs : List (List Value)} (h : KRow b okr W v l cs) (hm : l.length ≤ 9223372036854775807) :
    ∃ A c, v = .slice A l.length c ∧ l.length ≤ c ∧ Kd.F k33 W (fun k => b ≤ k ∧ okr k) A l.length l := by
  obtain ⟨h0, inner, ho, hr⟩ := h.row
  have hlen := h.len
  rcases ho.2 with ⟨rfl, hn⟩ | ⟨g, cap, cur, rfl, hg, hcur, hc1, hc2, hc3, hc4⟩
  · have : l = [] := List.eq_nil_of_length_eq_zero (by omega)
    subst this
    exact ⟨none, 0, rfl, Nat.le_refl _, Kd.F_nil _ _ _⟩
  · refine ⟨some ⟨g, 0, none⟩, cap, by rw [hlen], by omega, fun W' hW => ?_⟩
    have hn : W'.heap[g]? = some (.cells cur 33 (0, 0)) := (hW g ⟨hg, h0 g (by simp [Value.ownBlock])⟩ (blk_lt hcur)).trans hcur
    refine ⟨rfl, hm, fun _ => ⟨⟨g, 0, none⟩, rfl, fun j p hj => ?_⟩⟩
    have hjl := (List.getElem?_eq_some_iff.1 hj).1
    have hcj : cs[j]? = some cs[j] := List.getElem?_eq_getElem (by omega)
    obtain ⟨A3, c3, A4, c4, hce, hl⟩ := h.el j p cs[j] hj hcj
    have hM := (hr.2 j cs[j] hcj).1
    refine ⟨cs[j], (hr.2 j cs[j] hcj).2.1, ?_, fun i u hu => ?_⟩
    · rw [hce]
      exact k33_mk W' p hl.1 (hl.2.1 W' (fun k hk hlt => hW k hk.1 hlt)) hl.2.2.1 (hl.2.2.2 W' (fun k hk hlt => hW k hk.1 hlt))
    · have hi : i < 5 := by
        have h1 := (List.getElem?_eq_some_iff.1 hu).1
        have h2 : cs[j].length = 5 := (hr.2 j cs[j] hcj).2.1
        omega
      have hsz : raw5.sz = 5 := rfl
      rw [hsz] at hM hc4
      rw [← hM, List.getElem?_take_of_lt hi, List.getElem?_drop, ← hc4, List.getElem?_take_of_lt (by omega), Array.getElem?_toList] at hu
      have := blk_cell hn (j * 5 + i)
      rw [hu] at this
      rw [← this]
      congr 1
      show Addr.add ⟨g, 0, none⟩ (j * 5 + i) = _
      unfold Addr.add
      simp
      intros
      omega

/-- one more, and the row laid into a cell of another block -/
theorem KRow.grow {B0 n9 b5 : Nat} {W w1 : World} {v v1 : Value} {l : List S33} {cs : List (List Value)} {x : S33} {A3 : Option Addr} {c3 : Nat} {A4 : Option Addr} {c4 : Nat} (h : KRow B0 (fun k => k ≠ n9) W v l cs) (hx : Lies b5 W x A3 c3 A4 c4) (h9 : n9 < b5) (hv : ∀ k, v.ownBlock = some k → k < b5) (h0 : B0 ≤ b5)
    (hR : raw5.R 33 w1 B0 (fun k => k ≠ n9) v1 (cs ++ [cellsP x A3 c3 A4 c4])) (hg : W.grownBy w1 v.ownBlock) (hat : v1.ownBlock = v.ownBlock ∨ ∃ b, v1.ownBlock = some b ∧ W.heap.size ≤ b) (hm : (l ++ [x]).length ≤ 9223372036854775807) {i : Nat} :
    ∃ A c, v1 = .slice A (l ++ [x]).length c ∧ (l ++ [x]).length ≤ c ∧ Kd.F k33 (w1.setCell ⟨n9, i, none⟩ v1) (fun k => B0 ≤ k ∧ k ≠ n9) A (l ++ [x]).length (l ++ [x]) := by
  have h1 := h.app (hx.o.mono (fun k hk => ⟨⟨Nat.le_trans h0 hk.1, fun e => by have := hk.1; omega⟩, fun e => by have := hv k e.symm; have := hk.1; omega⟩)) hR hg hat
  exact (h1.far (p := ⟨n9, i, none⟩) (fun k hk => hk) v1).read hm

/-- three packets beside each other in a new block -/
theorem krow3 {b : Nat} {okr : Nat → Prop} {W0 W : World} {x y z : S33} {A3 : Option Addr} {c3 : Nat} {A4 : Option Addr} {c4 : Nat} {B3 : Option Addr} {d3 : Nat} {B4 : Option Addr} {d4 : Nat} {D3 : Option Addr} {e3 : Nat} {D4 : Option Addr} {e4 : Nat}
    (hW : W = W0.alloc (.cells (cellsP x A3 c3 A4 c4 ++ cellsP y B3 d3 B4 d4 ++ cellsP z D3 e3 D4 e4).toArray 33)) (hb : b ≤ W0.heap.size) (hok : ∀ k, k ≤ W0.heap.size → okr k) (hx : Lies b W0 x A3 c3 A4 c4) (hy : Lies b W0 y B3 d3 B4 d4) (hz : Lies b W0 z D3 e3 D4 e4) :
    KRow b okr W (.slice (some ⟨W0.heap.size, 0, none⟩) 3 3) [x, y, z] [cellsP x A3 c3 A4 c4, cellsP y B3 d3 B4 d4, cellsP z D3 e3 D4 e4] := by
  have hB : Below W0.heap.size W0 W := by rw [hW]; exact below_alloc (Below.refl _ _) _
  have hbl : W.heap[W0.heap.size]? = some (.cells (cellsP x A3 c3 A4 c4 ++ cellsP y B3 d3 B4 d4 ++ cellsP z D3 e3 D4 e4).toArray 33 (0, 0)) := by rw [hW]; exact blk_new _ _
  have key : ∀ {p : S33} {P3 : Option Addr} {q3 : Nat} {P4 : Option Addr} {q4 : Nat}, Lies b W0 p P3 q3 P4 q4 → LiesO (fun k => (b ≤ k ∧ okr k) ∧ some k ≠ (Value.slice (some ⟨W0.heap.size, 0, none⟩) 3 3).ownBlock) W p P3 q3 P4 q4 := fun h =>
    (h.o.below hB).mono (fun k hk => ⟨⟨hk.1, hok k (Nat.le_of_lt hk.2)⟩, fun e => by
      have : k = W0.heap.size := by simpa [Value.ownBlock] using e
      omega⟩)
  refine ⟨⟨fun k hk => ?_, (cellsP x A3 c3 A4 c4 ++ cellsP y B3 d3 B4 d4 ++ cellsP z D3 e3 D4 e4), ?_, ?_⟩, rfl, ?_⟩
  · have : W0.heap.size = k := by simpa [Value.ownBlock] using hk
    exact hok k (by omega)
  · exact ⟨rfl, .inr ⟨W0.heap.size, 3, _, rfl, hb, hbl, Nat.le_refl _, by unfold maxLen; omega, rfl, rfl⟩⟩
  · exact Reps.snoc (Reps.snoc (Reps.snoc (Reps.none _ 5) (raw5_mk x A3 c3 A4 c4 W b _) rfl) (raw5_mk y B3 d3 B4 d4 W b _) rfl) (raw5_mk z D3 e3 D4 e4 W b _) rfl
  · intro j p c h1 h2
    rcases j with _ | _ | _ | j
    · have e1 : x = p := by simpa using h1
      have e2 : cellsP x A3 c3 A4 c4 = c := by simpa using h2
      subst e1; subst e2
      exact ⟨_, _, _, _, rfl, key hx⟩
    · have e1 : y = p := by simpa using h1
      have e2 : cellsP y B3 d3 B4 d4 = c := by simpa using h2
      subst e1; subst e2
      exact ⟨_, _, _, _, rfl, key hy⟩
    · have e1 : z = p := by simpa using h1
      have e2 : cellsP z D3 e3 D4 e4 = c := by simpa using h2
      subst e1; subst e2
      exact ⟨_, _, _, _, rfl, key hz⟩
    · simp at h1

set_option maxHeartbeats 1600000 in
set_option maxRecDepth 100000 in
theorem list_ex (A : Option Addr) (n c : Nat) (w : World) :
    Calls Tryd.prog 48 #[.slice A n c] w fun e w' => e = .returned (.agg #[.int .i64 0, .int .i64 16, .bool true, .slice none 0 0, .slice A n c]) ∧ Below w.heap.size w w' := by
  have h5 := blk_new w (.cells #[.int .i64 0, .int .i64 16, .bool true, .slice none 0 0, .slice A n c] 33)
  go_enter Tryd.func48, Tryd.ntmps48
  go_wp2
  try simp only [Exit.inBlock, Exit.then]
  exact bodyPost_ret (results_c rfl _ _ _ _ _ _ _ rfl h5 Tryd.underlying33 rfl size33) rfl ⟨rfl, below_alloc (Below.refl _ _) _⟩

set_option maxHeartbeats 1600000 in
set_option maxRecDepth 100000 in
theorem tagged_ex (k t a0 a1 : Int) (a2 : Bool) (v3 : Value) (A4 : Option Addr) (n4 c4 : Nat) (A3 : Option Addr) (n3 c3 : Nat) (w : World) :
    Calls Tryd.prog 51 #[.int .i64 k, .int .i64 t, .agg #[.int .i64 a0, .int .i64 a1, .bool a2, .slice A3 n3 c3, .slice A4 n4 c4]] w fun e w' => e = .returned (.agg #[.int .i64 k, .int .i64 t, .bool a2, .slice A3 n3 c3, .slice A4 n4 c4]) ∧ Below w.heap.size w w' := by
  have h5 : ((w.alloc (.cells #[.int .i64 k, .int .i64 t, .bool a2, .slice A3 n3 c3, .slice A4 n4 c4] 33)).alloc (.cells #[.int .i64 k, .int .i64 t, .bool a2, .slice A3 n3 c3, .slice A4 n4 c4] 33)).heap[w.heap.size + 1]? = some (.cells #[.int .i64 k, .int .i64 t, .bool a2, .slice A3 n3 c3, .slice A4 n4 c4] 33 (0, 0)) := by
    have := blk_new (w.alloc (.cells #[.int .i64 k, .int .i64 t, .bool a2, .slice A3 n3 c3, .slice A4 n4 c4] 33)) (.cells #[.int .i64 k, .int .i64 t, .bool a2, .slice A3 n3 c3, .slice A4 n4 c4] 33)
    simpa using this
  go_enter Tryd.func51, Tryd.ntmps51
  go_wp2
  try simp only [Exit.inBlock, Exit.then]
  exact bodyPost_ret (results_c rfl _ _ _ _ _ _ _ rfl h5 Tryd.underlying33 rfl size33) rfl ⟨rfl, below_alloc (below_alloc (Below.refl _ _) _) _⟩

set_option maxHeartbeats 1600000 in
set_option maxRecDepth 100000 in
theorem operation_ex (t : Int) (A : Option Addr) (n c : Nat) (w : World) :
    Calls Tryd.prog 46 #[.int .i64 t, .slice A n c] w fun e w' => e = .returned (.agg #[.int .i64 1, .int .i64 t, .bool true, .slice none 0 0, .slice A n c]) ∧ Below w.heap.size w w' := by
  obtain ⟨W0, hW0⟩ : ∃ W0, W0 = w.alloc (.cells #[.int .i64 0, .int .i64 0, .bool false, .slice none 0 0, .slice none 0 0] 33) := ⟨_, rfl⟩
  have hb0 : Below w.heap.size w W0 := by rw [hW0]; exact below_alloc (Below.refl _ _) _
  have hz0 : W0.heap[w.heap.size]? = some (.cells #[.int .i64 0, .int .i64 0, .bool false, .slice none 0 0, .slice none 0 0] 33 (0, 0)) := by rw [hW0]; exact blk_new _ _
  have HB0 := Lib.hid hb0
  have HZ0 := Lib.hid hz0
  have HW0 := Lib.hid hW0
  clear hb0 hz0 hW0
  go_enter Tryd.func46, Tryd.ntmps46
  go_wp2_with (first
    | (go_at_call 48
       rw [← HW0.out]
       with_reducible refine (list_ex A n c W0).mono ?_
       rintro e W1 ⟨rfl, hB1⟩
       have HZ1 := Lib.hid (blk_below HZ0.out hB1)
       have HB1 := Lib.hid (HB0.out.trans (hB1.mono HB0.out.size))
       clear hB1)
    | (go_at_call 51
       with_reducible refine (tagged_ex 1 t 0 16 true .nilIface A n c none 0 0 W1).mono ?_
       rintro e W2 ⟨rfl, hB2⟩
       have HZ2 := Lib.hid (blk_below HZ1.out hB2)
       have HB2 := Lib.hid (HB1.out.trans (hB2.mono HB1.out.size))
       have k0 : W2.cell? ⟨w.heap.size, 0, none⟩ = some (.int .i64 0) := blk_cell HZ2.out 0
       have k1 : W2.cell? ⟨w.heap.size, 1, none⟩ = some (.int .i64 0) := blk_cell HZ2.out 1
       have k2 : W2.cell? ⟨w.heap.size, 2, none⟩ = some (.bool false) := blk_cell HZ2.out 2
       have k3 : W2.cell? ⟨w.heap.size, 3, none⟩ = some (.slice none 0 0) := blk_cell HZ2.out 3
       have k4 : W2.cell? ⟨w.heap.size, 4, none⟩ = some (.slice none 0 0) := blk_cell HZ2.out 4
       have kf0 := blk_frozen HZ2.out 0
       have kf1 := blk_frozen HZ2.out 1
       have kf2 := blk_frozen HZ2.out 2
       have kf3 := blk_frozen HZ2.out 3
       have kf4 := blk_frozen HZ2.out 4
       clear hB2))
  have h5 := blk_set (blk_set (blk_set (blk_set (blk_set HZ2.out 0 (.int .i64 1)) 1 (.int .i64 t)) 2 (.bool true)) 3 (.slice none 0 0)) 4 (.slice A n c)
  have hb5 : Below w.heap.size w (((((W2.setCell ⟨w.heap.size, 0, none⟩ (.int .i64 1)).setCell ⟨w.heap.size, 1, none⟩ (.int .i64 t)).setCell ⟨w.heap.size, 2, none⟩ (.bool true)).setCell ⟨w.heap.size, 3, none⟩ (.slice none 0 0)).setCell ⟨w.heap.size, 4, none⟩ (.slice A n c)) :=
    ((((HB2.out.setCell (p := ⟨w.heap.size, 0, none⟩) (Nat.le_refl _) _).setCell (p := ⟨w.heap.size, 1, none⟩) (Nat.le_refl _) _).setCell (p := ⟨w.heap.size, 2, none⟩) (Nat.le_refl _) _).setCell (p := ⟨w.heap.size, 3, none⟩) (Nat.le_refl _) _).setCell (p := ⟨w.heap.size, 4, none⟩) (Nat.le_refl _) _
  try simp only [Exit.inBlock, Exit.then]
  exact bodyPost_ret (results_c rfl _ _ _ _ _ _ _ rfl h5 Tryd.underlying33 rfl size33) rfl ⟨rfl, hb5⟩

theorem info_sp : (Tryd.prog.info? 33).map (fun i => (i.zero, i.size, i.bytes)) = some (some (.agg #[.int .i64 0, .int .i64 0, .bool false, .slice none 0 0, .slice none 0 0]), 5, 72) := by kernel_rfl
end Go.Proofs.YtbmcpjkhnhbjdaaDoor.Ber
