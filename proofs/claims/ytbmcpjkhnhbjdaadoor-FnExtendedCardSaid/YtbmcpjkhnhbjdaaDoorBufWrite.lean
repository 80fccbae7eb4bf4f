/- (*bytes.Buffer).Write: the bytes are appended; only the buffer's struct and its own row change. No condition but Go's own limit on sizes. -/
import Derived.Lib.BufferSrc
import Derived.Test.YtbmcpjkhnhbjdaaDoorBufBig
import Derived.Test.YtbmcpjkhnhbjdaaDoorBufRow
import Derived.Test.YtbmcpjkhnhbjdaaDoorBufRow0
namespace Go.Proofs.YtbmcpjkhnhbjdaaDoor.Buf
open Go.RowKit Go.Proofs.YtbmcpjkhnhbjdaaDoorW.PrintWords
set_option linter.unusedVariables false
set_option linter.unusedSimpArgs false

/-- What a writer leaves: the bytes xs; the row is the old one or a new block; nothing else has changed. -/
def Wrote (w : World) (b : Nat) (v : Value) (xs : List Int) (e0 e : Ending) (w' : World) : Prop :=
  e = e0 ∧ ∃ v', IsBuf w' b v' xs ∧ (v'.ownBlock = v.ownBlock ∨ ∃ N, v'.ownBlock = some N ∧ w.heap.size ≤ N) ∧ Only (fun i => i = b ∨ some i = v.ownBlock) w w'

theorem nums_one (xs : List Int) : ∀ v ∈ nums .u8 xs, v.oneCell' = true := by
  intro v hv
  obtain ⟨x, _, rfl⟩ := List.mem_map.1 hv
  rfl

/-- What tryGrowByReslice or grow leaves: a row with room, its head as it was. -/
def Room (w : World) (b : Nat) (v : Value) (l n : Nat) (cs : List Value) (w' : World) : Prop :=
  ∃ N cap cur, Hdr w' b (.slice (some ⟨N, 0, none⟩) (l + n) cap) ∧ w'.heap[N]? = some (.cells cur 5 (0, 0)) ∧ cur.size = cap ∧ l + n ≤ cap ∧ cap ≤ maxLen ∧ cur.toList.take l = cs ∧
    (some N = v.ownBlock ∨ w.heap.size ≤ N) ∧ Only (fun i => i = b) w w'

theorem grew_room {w : World} {b l n : Nat} {cs : List Value} {e : Ending} {w' : World} (v : Value) (h : Grew w b l n cs e w') : e = .returned (.int .i64 l) ∧ Room w b v l n cs w' := by
  obtain ⟨he, N, cap, cur, h1, h2, h3, h4, h5, h6, h7, h8⟩ := h
  exact ⟨he, N, cap, cur, h2, h3, h4, h5, h6, h7, Or.inr h1, h8⟩

/-- Writing cs2 behind the head. -/
theorem room_written {w w1 : World} {b : Nat} {v : Value} {xs ys : List Int} (h : Room w b v xs.length ys.length (nums .u8 xs) w1) :
    ∀ N cap cur, Hdr w1 b (.slice (some ⟨N, 0, none⟩) (xs.length + ys.length) cap) → w1.heap[N]? = some (.cells cur 5 (0, 0)) → cur.size = cap → xs.length + ys.length ≤ cap → cap ≤ maxLen → cur.toList.take xs.length = nums .u8 xs →
      (some N = v.ownBlock ∨ w.heap.size ≤ N) → Only (fun i => i = b) w w1 →
      Wrote w b v (xs ++ ys) (.returned (.tuple #[.int .i64 ys.length, .nilIface])) (.returned (.tuple #[.int .i64 ys.length, .nilIface])) (w1.setRow N (nums .u8 xs ++ nums .u8 ys ++ cur.toList.drop (xs.length + ys.length)).toArray) := by
  intro N cap cur h1 h2 h3 h4 h5 h6 h7 h8
  obtain ⟨lr, hb⟩ := h1
  have hNb : N ≠ b := by
    rintro rfl
    rw [h2] at hb
    injection hb with hb
    injection hb with _ hb
    exact absurd hb (by decide)
  refine ⟨rfl, .slice (some ⟨N, 0, none⟩) (xs.length + ys.length) cap, ⟨⟨lr, ?_⟩, ?_⟩, ?_, ?_⟩
  · rw [setRow_other _ _ _ _ (Ne.symm hNb)]; exact hb
  · refine ⟨by simp [nums], .inr ⟨N, cap, _, by rw [List.length_append], Nat.zero_le _, setRow_heap w1 N cur _ _ (0, 0) h2, by rw [List.length_append]; omega, h5, ?_, ?_⟩⟩
    · simp [nums]; omega
    · rw [nums_append, List.toList_toArray, Nat.mul_one, List.length_append, List.take_append_of_le_length (by simp [nums]), List.take_of_length_le (by simp [nums])]
  · rcases h7 with h7 | h7
    · exact Or.inl (by simpa [Value.ownBlock] using h7)
    · exact Or.inr ⟨N, rfl, h7⟩
  · refine ⟨h8.os, h8.tape, h8.output, by simpa using h8.size, fun i hi hn => ?_⟩
    have hiN : i ≠ N := by
      rintro rfl
      rcases h7 with h7 | h7
      · exact hn (Or.inr h7)
      · omega
    rw [setRow_other _ _ _ _ hiN]
    exact h8.block i hi (fun hc => hn (Or.inl hc))

/-- A buffer with room for n more: what the struct and the row look like. -/
theorem tryGrow_room (b : Nat) (v : Value) (xs : List Int) (n : Nat) (w : World) (h : IsBuf w b v xs) (hn : 1 ≤ n) :
    (Calls Tryd.prog 106 #[.pointer (some ⟨b, 0, none⟩), .int .i64 n] w fun e w' => e = .returned (.tuple #[.int .i64 xs.length, .bool true]) ∧ Room w b v xs.length n (nums .u8 xs) w') ∨
    ((Calls Tryd.prog 106 #[.pointer (some ⟨b, 0, none⟩), .int .i64 n] w fun e w' => e = .returned (.tuple #[.int .i64 0, .bool false]) ∧ w = w') ∧
      (xs.length + n ≤ 140737488355328 → Calls Tryd.prog 107 #[.pointer (some ⟨b, 0, none⟩), .int .i64 n] w fun e w' => e = .returned (.int .i64 xs.length) ∧ Room w b v xs.length n (nums .u8 xs) w')) := by
  obtain ⟨⟨lr, hb⟩, hlen, ho⟩ := h
  rcases ho with ⟨rfl, h0⟩ | ⟨g, cap, cur, rfl, -, hg, hnc, hcm, hcs, htk⟩
  · have hx : xs = [] := List.eq_nil_of_length_eq_zero h0
    subst hx
    have c0 : w.cell? ⟨b, 0, none⟩ = some (.slice none 0 0) := by rw [Lib.cell_of_heap hb]; rfl
    refine Or.inr ⟨(Tryd.Buffer_tryGrow_none b none 0 0 n w c0 (Nat.le_refl _) (Nat.zero_le _) (by omega)).mono fun e w' ⟨h1, h2⟩ => ⟨h1, h2.symm⟩, fun hl => ?_⟩
    by_cases h64 : n ≤ 64
    · exact (grow_nil_small b n w ⟨lr, hb⟩ hn h64).mono fun e w' h => grew_room _ h
    · exact (grow_nil_big b n w ⟨lr, hb⟩ (by omega) (by simpa using hl)).mono fun e w' h => grew_room _ h
  · rw [Nat.mul_one] at hcs htk
    have c0 : w.cell? ⟨b, 0, none⟩ = some (.slice (some ⟨g, 0, none⟩) xs.length cap) := by rw [Lib.cell_of_heap hb]; rfl
    have f0 := Lib.frozen_of_heap hb 0
    by_cases hr : n ≤ cap - xs.length
    · refine Or.inl ((Tryd.Buffer_tryGrow_room b _ xs.length cap n w c0 f0 hnc hcm hr).mono ?_)
      rintro e w' ⟨rfl, rfl⟩
      refine ⟨rfl, g, cap, cur, ⟨lr, Lib.heap_setCell_same (i := 0) hb _⟩, ?_, hcs, by omega, hcm, htk, Or.inl rfl, (Only.refl (fun i => i = b) w).setCell (a := ⟨b, 0, none⟩) (fun _ => rfl) _⟩
      have hgb : g ≠ b := by
        rintro rfl
        rw [hg] at hb
        injection hb with hb
        injection hb with _ hb
        exact absurd hb (by decide)
      rw [Below.heap_setCell _ _ _ _ hgb]; exact hg
    · refine Or.inr ⟨(Tryd.Buffer_tryGrow_none b _ xs.length cap n w c0 hnc hcm (by omega)).mono fun e w' ⟨h1, h2⟩ => ⟨h1, h2.symm⟩, fun hl => ?_⟩
      by_cases hl0 : 0 < xs.length
      · exact (grow_row b g xs.length cap n cur _ w ⟨lr, hb⟩ hl0 hg hnc hcm hcs htk (nums_one xs) hn (by omega) hl).mono fun e w' h => grew_room _ h
      · have hx : xs.length = 0 := by omega
        have hx' : xs = [] := List.eq_nil_of_length_eq_zero hx
        subst hx'
        exact (grow_row0 b g cap n cur w ⟨lr, hb⟩ hg hcm hcs hn (by simpa using hr) (by simpa using hl)).mono fun e w' h => grew_room _ h

theorem IsBuf.setLast {w : World} {b : Nat} {v : Value} {xs : List Int} (h : IsBuf w b v xs) : IsBuf (w.setCell ⟨b, 2, none⟩ (.int .i8 0)) b v xs := by
  have hne := row_ne h.1 h.2
  obtain ⟨⟨lr, hb⟩, ho⟩ := h
  exact ⟨⟨0, Lib.heap_setCell_same (i := 2) hb _⟩, own_move ho (fun k hk => Below.heap_setCell _ _ _ _ (fun e => hne (by rw [hk, e])))⟩

theorem IsBuf.last {w : World} {b : Nat} {v : Value} {xs : List Int} (h : IsBuf w b v xs) : ∃ lr, w.cell? ⟨b, 2, none⟩ = some (.int .i8 lr) ∧ w.frozen? ⟨b, 2, none⟩ = false := by
  obtain ⟨⟨lr, hb⟩, _⟩ := h
  exact ⟨lr, by rw [Lib.cell_of_heap hb]; rfl, Lib.frozen_of_heap hb 2⟩

set_option maxHeartbeats 6400000 in
set_option maxRecDepth 100000 in
/-- Write of at least one byte: p's cells lie in another block than the struct. -/
theorem write_some (b : Nat) (v : Value) (xs ys : List Int) (a : Addr) (c : Nat) (w : World) (h : IsBuf w b v xs) (hy : 1 ≤ ys.length) (hab : a.block ≠ b)
    (hsrc : ∀ j u, (nums .u8 ys)[j]? = some u → w.cell? (a.add j) = some u) (hlim : xs.length + ys.length ≤ 140737488355328) :
    Calls Tryd.prog 88 #[.pointer (some ⟨b, 0, none⟩), .slice (some a) ys.length c] w fun e w' => Wrote w b v (xs ++ ys) (.returned (.tuple #[.int .i64 ys.length, .nilIface])) e w' := by
  obtain ⟨lr, c2, f2⟩ := h.last
  have h' := h.setLast
  have ho0 : Only (fun i => i = b) w (w.setCell ⟨b, 2, none⟩ (.int .i8 0)) := (Only.refl (fun i => i = b) w).setCell (a := ⟨b, 2, none⟩) (fun _ => rfl) _
  have hsz0 : (w.setCell ⟨b, 2, none⟩ (.int .i8 0)).heap.size = w.heap.size := by simp
  obtain ⟨n, hn⟩ : ∃ n, n = ys.length := ⟨_, rfl⟩
  rw [← hn] at hy hlim ⊢
  obtain ⟨l, hl⟩ : ∃ l, l = xs.length := ⟨_, rfl⟩
  rw [← hl] at hlim
  have hinfo : (Tryd.prog.info? 5).map (·.size) = some 1 := by
    obtain ⟨i0, hi, -, hz1, -⟩ := info_parts info_u8
    rw [hi]; simp [hz1]
  -- behind the making of room
  have fin : ∀ W1, Room (w.setCell ⟨b, 2, none⟩ (.int .i8 0)) b v l n (nums .u8 xs) W1 → ∃ (N cap : Nat) (cur : Array Value), W1.cell? ⟨b, 0, none⟩ = some (.slice (some ⟨N, 0, none⟩) (l + n) cap) ∧ l + n ≤ cap ∧ cap ≤ maxLen ∧
      (Builtin.copy_ #[24, 24] 3 #[.slice (some ⟨N, l, none⟩) n (cap - l), .slice (some a) n c]).run Tryd.prog W1 = .ok (goInt n) (W1.setRow N (nums .u8 xs ++ (nums .u8 ys ++ cur.toList.drop (l + n))).toArray) ∧
      Wrote w b v (xs ++ ys) (.returned (.tuple #[.int .i64 n, .nilIface])) (.returned (.tuple #[.int .i64 n, .nilIface])) (W1.setRow N (nums .u8 xs ++ (nums .u8 ys ++ cur.toList.drop (l + n))).toArray) := by
    intro W1 hR
    have hR0 := hR
    obtain ⟨N, cap, cur, r1, r2, r3, r4, r5, r6, r7, r8⟩ := hR
    have hd : W1.cell? ⟨b, 0, none⟩ = some (.slice (some ⟨N, 0, none⟩) (l + n) cap) := by
      obtain ⟨lr', hb'⟩ := r1
      rw [Lib.cell_of_heap hb']; rfl
    have hsrc1 : ∀ j u, (nums .u8 ys)[j]? = some u → W1.cell? (a.add j) = some u := fun j u hj => by
      have hc := hsrc j u hj
      have hlt := World.block_lt_of_cell? w _ hc
      rw [Lib.block_add] at hlt
      rw [World.cell?_of_block (w := w) (by rw [Lib.block_add, r8.block a.block (by rw [hsz0]; exact hlt) hab, Below.heap_setCell _ _ _ _ hab])]
      exact hc
    have hcp := run_copy_row (P := Tryd.prog) W1 24 24 3 5 N l n (cap - l) a n c cur 5 (nums .u8 ys) Tryd.underlying24 hinfo r2 (by rw [nums_length, hn]; exact (Nat.min_self _).symm) hsrc1 (by rw [nums_length]; omega) (nums_one ys)
    rw [r6, nums_length, ← hn, List.append_assoc] at hcp
    refine ⟨N, cap, cur, hd, r4, r5, hcp, ?_⟩
    subst hn hl
    have hrw := room_written hR0 N cap cur r1 r2 r3 r4 r5 r6 r7 r8
    rw [List.append_assoc] at hrw
    obtain ⟨e1, v', q1, q2, q3⟩ := hrw
    refine ⟨rfl, v', q1, ?_, ho0.mono (fun i _ hi => Or.inl hi) |>.trans q3 (fun i _ hi => hi)⟩
    rw [hsz0] at q2
    exact q2
  have T := tryGrow_room b v xs n _ h' hy
  rw [← hl] at T
  clear h' h hsrc hl hn
  have FIN := Lib.hid fin
  clear fin
  rcases T with T | ⟨T1, T2⟩
  · go_enter Tryd.func88, Tryd.ntmps88
    go_wp2_with (go_at_call 106; refine T.mono ?_)
    rintro e W1 ⟨rfl, hR⟩
    obtain ⟨N, cap, cur, d0, hnc, hcm, hcp, hW⟩ := FIN.out W1 hR
    have hcm' := hcm
    unfold maxLen at hcm'
    have hne : ¬ cap = l := by omega
    have HW := Lib.hid hW
    clear hW hR T FIN c2 f2
    go_wp2
    go_ret2
    exact HW.out
  · have T2' := T2 hlim
    go_enter Tryd.func88, Tryd.ntmps88
    go_wp2_with (first | (go_at_call 106; refine T1.mono ?_; rintro e W0 ⟨rfl, rfl⟩) | (go_at_call 107; refine T2'.mono ?_))
    rintro e W1 ⟨rfl, hR⟩
    obtain ⟨N, cap, cur, d0, hnc, hcm, hcp, hW⟩ := FIN.out W1 hR
    have hcm' := hcm
    unfold maxLen at hcm'
    have hne : ¬ cap = l := by omega
    have HW := Lib.hid hW
    clear hW hR T1 T2 T2' FIN c2 f2
    go_wp2
    go_ret2
    exact HW.out

theorem IsBuf.shape {w : World} {b : Nat} {v : Value} {xs : List Int} (h : IsBuf w b v xs) : ∃ ao cap, v = .slice ao xs.length cap ∧ xs.length ≤ cap ∧ cap ≤ maxLen ∧ w.cell? ⟨b, 0, none⟩ = some v ∧ w.frozen? ⟨b, 0, none⟩ = false := by
  obtain ⟨⟨lr, hb⟩, hlen, ho⟩ := h
  have c0 : w.cell? ⟨b, 0, none⟩ = some v := by rw [Lib.cell_of_heap hb]; rfl
  rcases ho with ⟨rfl, h0⟩ | ⟨g, cap, cur, rfl, -, hg, hnc, hcm, hcs, htk⟩
  · exact ⟨none, 0, by rw [h0], by omega, by unfold maxLen; omega, c0, Lib.frozen_of_heap hb 0⟩
  · exact ⟨_, cap, rfl, hnc, hcm, c0, Lib.frozen_of_heap hb 0⟩

theorem IsBuf.setSame {w : World} {b : Nat} {v : Value} {xs : List Int} (h : IsBuf w b v xs) : IsBuf (w.setCell ⟨b, 0, none⟩ v) b v xs := by
  have hne := row_ne h.1 h.2
  obtain ⟨⟨lr, hb⟩, ho⟩ := h
  exact ⟨⟨lr, Lib.heap_setCell_same (i := 0) hb _⟩, own_move ho (fun k hk => Below.heap_setCell _ _ _ _ (fun e => hne (by rw [hk, e])))⟩

set_option maxHeartbeats 6400000 in
set_option maxRecDepth 100000 in
/-- Write of no byte. -/
theorem write_none (b : Nat) (v : Value) (xs : List Int) (ao : Option Addr) (c : Nat) (w : World) (h : IsBuf w b v xs) :
    Calls Tryd.prog 88 #[.pointer (some ⟨b, 0, none⟩), .slice ao 0 c] w fun e w' => Wrote w b v xs (.returned (.tuple #[.int .i64 0, .nilIface])) e w' := by
  obtain ⟨lr, c2, f2⟩ := h.last
  have h' := h.setLast
  have ho0 : Only (fun i => i = b) w (w.setCell ⟨b, 2, none⟩ (.int .i8 0)) := (Only.refl (fun i => i = b) w).setCell (a := ⟨b, 2, none⟩) (fun _ => rfl) _
  have hinfo : (Tryd.prog.info? 5).map (·.size) = some 1 := by
    obtain ⟨i0, hi, -, hz1, -⟩ := info_parts info_u8
    rw [hi]; simp [hz1]
  have hce : ∀ d dLen dCap W, (Builtin.copy_ #[24, 24] 3 #[.slice d dLen dCap, .slice ao 0 c]).run Tryd.prog W = .ok (goInt 0) W := fun d dLen dCap W =>
    run_copy_none W 24 24 3 5 d ao dLen dCap 0 c Tryd.underlying24 hinfo (by simp)
  obtain ⟨ab, cap, hv, hlc, hcm, d0, f0⟩ := h'.shape
  obtain ⟨l, hl⟩ : ∃ l, l = xs.length := ⟨_, rfl⟩
  rw [← hl] at hv hlc
  subst hv
  have h2 := h'.setSame
  have FIN : Hid (Wrote w b (.slice ab l cap) xs (.returned (.tuple #[.int .i64 0, .nilIface])) (.returned (.tuple #[.int .i64 0, .nilIface])) ((w.setCell ⟨b, 2, none⟩ (.int .i8 0)).setCell ⟨b, 0, none⟩ (.slice ab l cap))) :=
    ⟨rfl, _, h2, Or.inl rfl, (ho0.setCell (a := ⟨b, 0, none⟩) (fun _ => rfl) _).mono fun i _ hi => Or.inl hi⟩
  have T := Tryd.Buffer_tryGrow_room b ab l cap 0 _ d0 f0 hlc hcm (Nat.zero_le _)
  have g0 : ((w.setCell ⟨b, 2, none⟩ (.int .i8 0)).setCell ⟨b, 0, none⟩ (.slice ab l cap)).cell? ⟨b, 0, none⟩ = some (.slice ab l cap) := World.cell?_setCell_same _ _ _ d0
  have hcm' := hcm
  unfold maxLen at hcm'
  clear h h' h2 ho0 d0 f0 hl
  go_enter Tryd.func88, Tryd.ntmps88
  go_wp2_with (go_at_call 106; refine T.mono ?_)
  rintro e W1 ⟨rfl, rfl⟩
  clear T c2 f2
  rcases Nat.decEq cap l with hcl | hcl
  · go_wp2
    go_ret2
    exact FIN.out
  · subst hcl
    go_wp2
    go_ret2
    exact FIN.out

/-- Write of any bytes at an address in another block than the struct. -/
theorem write_any (b : Nat) (v : Value) (xs ys : List Int) (a : Addr) (c : Nat) (w : World) (h : IsBuf w b v xs) (hab : a.block ≠ b)
    (hsrc : ∀ j u, (nums .u8 ys)[j]? = some u → w.cell? (a.add j) = some u) (hlim : xs.length + ys.length ≤ 140737488355328) :
    Calls Tryd.prog 88 #[.pointer (some ⟨b, 0, none⟩), .slice (some a) ys.length c] w fun e w' => Wrote w b v (xs ++ ys) (.returned (.tuple #[.int .i64 ys.length, .nilIface])) e w' := by
  by_cases hy : 1 ≤ ys.length
  · exact write_some b v xs ys a c w h hy hab hsrc hlim
  · have hy0 : ys = [] := List.eq_nil_of_length_eq_zero (by omega)
    subst hy0
    rw [List.append_nil]
    exact write_none b v xs (some a) c w h
end Go.Proofs.YtbmcpjkhnhbjdaaDoor.Buf
