/- Parts of the proof of one law, in the order in which they build. (*bytes.Buffer).Write: the bytes are appended; only the buffer's struct and its own row change. No condition but Go's own limit on sizes. -/
import Derived.Lib.BufferSrc
import Derived.Test.YteockihoefbmdaaGreatDoorProg
import Derived.Below
import Derived.Deep.Draws
import Derived.Deep.AppendLies
import Derived.Maps.AppendAt
import Derived.OwnWalk
import Derived.Laws.BytesArg
import Derived.Laws.MakeOwn
import Derived.Laws.OwnMore
import Derived.Deep.OwnRows
import Derived.Tactics
import Derived.Lib.ConvBytes
import Derived.Laws.Slices
import Derived.WalkKit
import Derived.KernelRfl
import Derived.RowKit3
import Derived.Deep.LoopGhost
import Derived.Deep.QuietTactic
import Derived.BigQuiet
import Derived.WideLaws
import Derived.Deep.DeepCutAuto
import Derived.Deep.CutBlock
import Derived.Deep.RegionHeld3
import Derived.Laws.Rows
import Derived.Lib.AppendStr
import Derived.ArgAppend
import Derived.Laws.IdiomCopy
import Derived.OrdersHeld
import Derived.Laws.BitsLemmas
import Derived.RowKit
import Derived.Test.YteockihoefbmdaaGreatDoorEty1
import Derived.Test.YteockihoefbmdaaGreatDoorEty2
import Derived.Test.YteockihoefbmdaaGreatDoorEty3
namespace Go.Proofs.YteockihoefbmdaaGreatDoor.Buf
open Go.RowKit Go.Proofs.YteockihoefbmdaaGreatDoorW.PrintWords
set_option linter.unusedVariables false
set_option linter.unusedSimpArgs false

/-- What a writer leaves: the bytes xs; the row is the old one or a new block; nothing else has changed. -/
def Wrote (w : World) (b : Nat) (v : Value) (xs : List Int) (e0 e : Ending) (w' : World) : Prop :=
  e = e0 ∧ ∃ v', IsBuf w' b v' xs ∧ (v'.ownBlock = v.ownBlock ∨ ∃ N, v'.ownBlock = some N ∧ w.heap.size ≤ N) ∧ Only (fun i => i = b ∨ some i = v.ownBlock) w w'

theorem nums_one (xs : List Int) : ∀ v ∈ nums .u8 xs, v.oneCell' = true := by
  intro v hv
  obtain ⟨x, _, rfl⟩ := List.mem_map.1 hv
  rfl

/-- What tryGrowByReslice or grow leaves: a row with room, its head as it was. -/
def Room (w : World) (b : Nat) (v : Value) (l n : Nat) (cs : List Value) (w' : World) : Prop :=
  ∃ N cap cur, Hdr w' b (.slice (some ⟨N, 0, none⟩) (l + n) cap) ∧ w'.heap[N]? = some (.cells cur 5 (0, 0)) ∧ cur.size = cap ∧ l + n ≤ cap ∧ cap ≤ maxLen ∧ cur.toList.take l = cs ∧
    (some N = v.ownBlock ∨ w.heap.size ≤ N) ∧ Only (fun i => i = b) w w'

theorem grew_room {w : World} {b l n : Nat} {cs : List Value} {e : Ending} {w' : World} (v : Value) (h : Grew w b l n cs e w') : e = .returned (.int .i64 l) ∧ Room w b v l n cs w' := by
  obtain ⟨he, N, cap, cur, h1, h2, h3, h4, h5, h6, h7, h8⟩ := h
  exact ⟨he, N, cap, cur, h2, h3, h4, h5, h6, h7, Or.inr h1, h8⟩

/-- Writing cs2 behind the head. -/
theorem room_written {w w1 : World} {b : Nat} {v : Value} {xs ys : List Int} (h : Room w b v xs.length ys.length (nums .u8 xs) w1) :
    ∀ N cap cur, Hdr w1 b (.slice (some ⟨N, 0, none⟩) (xs.length + ys.length) cap) → w1.heap[N]? = some (.cells cur 5 (0, 0)) → cur.size = cap → xs.length + ys.length ≤ cap → cap ≤ maxLen → cur.toList.take xs.length = nums .u8 xs →
      (some N = v.ownBlock ∨ w.heap.size ≤ N) → Only (fun i => i = b) w w1 →
      Wrote w b v (xs ++ ys) (.returned (.tuple #[.int .i64 ys.length, .nilIface])) (.returned (.tuple #[.int .i64 ys.length, .nilIface])) (w1.setRow N (nums .u8 xs ++ nums .u8 ys ++ cur.toList.drop (xs.length + ys.length)).toArray) := by
  intro N cap cur h1 h2 h3 h4 h5 h6 h7 h8
  obtain ⟨lr, hb⟩ := h1
  have hNb : N ≠ b := by
    rintro rfl
    rw [h2] at hb
    injection hb with hb
    injection hb with _ hb
    exact absurd hb (by decide)
  refine ⟨rfl, .slice (some ⟨N, 0, none⟩) (xs.length + ys.length) cap, ⟨⟨lr, ?_⟩, ?_⟩, ?_, ?_⟩
  · rw [setRow_other _ _ _ _ (Ne.symm hNb)]; exact hb
  · refine ⟨by simp [nums], .inr ⟨N, cap, _, by rw [List.length_append], Nat.zero_le _, setRow_heap w1 N cur _ _ (0, 0) h2, by rw [List.length_append]; omega, h5, ?_, ?_⟩⟩
    · simp [nums]; omega
    · rw [nums_append, List.toList_toArray, Nat.mul_one, List.length_append, List.take_append_of_le_length (by simp [nums]), List.take_of_length_le (by simp [nums])]
  · rcases h7 with h7 | h7
    · exact Or.inl (by simpa [Value.ownBlock] using h7)
    · exact Or.inr ⟨N, rfl, h7⟩
  · refine ⟨h8.os, h8.tape, h8.output, by simpa using h8.size, fun i hi hn => ?_⟩
    have hiN : i ≠ N := by
      rintro rfl
      rcases h7 with h7 | h7
      · exact hn (Or.inr h7)
      · omega
    rw [setRow_other _ _ _ _ hiN]
    exact h8.block i hi (fun hc => hn (Or.inl hc))

/-- A buffer with room for n more: what the struct and the row look like. -/
theorem tryGrow_room (b : Nat) (v : Value) (xs : List Int) (n : Nat) (w : World) (h : IsBuf w b v xs) (hn : 1 ≤ n) :
    (Calls Tryz.prog 132 #[.pointer (some ⟨b, 0, none⟩), .int .i64 n] w fun e w' => e = .returned (.tuple #[.int .i64 xs.length, .bool true]) ∧ Room w b v xs.length n (nums .u8 xs) w') ∨
    ((Calls Tryz.prog 132 #[.pointer (some ⟨b, 0, none⟩), .int .i64 n] w fun e w' => e = .returned (.tuple #[.int .i64 0, .bool false]) ∧ w = w') ∧
      (xs.length + n ≤ 140737488355328 → Calls Tryz.prog 133 #[.pointer (some ⟨b, 0, none⟩), .int .i64 n] w fun e w' => e = .returned (.int .i64 xs.length) ∧ Room w b v xs.length n (nums .u8 xs) w')) := by
  obtain ⟨⟨lr, hb⟩, hlen, ho⟩ := h
  rcases ho with ⟨rfl, h0⟩ | ⟨g, cap, cur, rfl, -, hg, hnc, hcm, hcs, htk⟩
  · have hx : xs = [] := List.eq_nil_of_length_eq_zero h0
    subst hx
    have c0 : w.cell? ⟨b, 0, none⟩ = some (.slice none 0 0) := by rw [Lib.cell_of_heap hb]; rfl
    refine Or.inr ⟨(Tryz.Buffer_tryGrow_none b none 0 0 n w c0 (Nat.le_refl _) (Nat.zero_le _) (by omega)).mono fun e w' ⟨h1, h2⟩ => ⟨h1, h2.symm⟩, fun hl => ?_⟩
    by_cases h64 : n ≤ 64
    · exact (grow_nil_small b n w ⟨lr, hb⟩ hn h64).mono fun e w' h => grew_room _ h
    · exact (grow_nil_big b n w ⟨lr, hb⟩ (by omega) (by simpa using hl)).mono fun e w' h => grew_room _ h
  · rw [Nat.mul_one] at hcs htk
    have c0 : w.cell? ⟨b, 0, none⟩ = some (.slice (some ⟨g, 0, none⟩) xs.length cap) := by rw [Lib.cell_of_heap hb]; rfl
    have f0 := Lib.frozen_of_heap hb 0
    by_cases hr : n ≤ cap - xs.length
    · refine Or.inl ((Tryz.Buffer_tryGrow_room b _ xs.length cap n w c0 f0 hnc hcm hr).mono ?_)
      rintro e w' ⟨rfl, rfl⟩
      refine ⟨rfl, g, cap, cur, ⟨lr, Lib.heap_setCell_same (i := 0) hb _⟩, ?_, hcs, by omega, hcm, htk, Or.inl rfl, (Only.refl (fun i => i = b) w).setCell (a := ⟨b, 0, none⟩) (fun _ => rfl) _⟩
      have hgb : g ≠ b := by
        rintro rfl
        rw [hg] at hb
        injection hb with hb
        injection hb with _ hb
        exact absurd hb (by decide)
      rw [Below.heap_setCell _ _ _ _ hgb]; exact hg
    · refine Or.inr ⟨(Tryz.Buffer_tryGrow_none b _ xs.length cap n w c0 hnc hcm (by omega)).mono fun e w' ⟨h1, h2⟩ => ⟨h1, h2.symm⟩, fun hl => ?_⟩
      by_cases hl0 : 0 < xs.length
      · exact (grow_row b g xs.length cap n cur _ w ⟨lr, hb⟩ hl0 hg hnc hcm hcs htk (nums_one xs) hn (by omega) hl).mono fun e w' h => grew_room _ h
      · have hx : xs.length = 0 := by omega
        have hx' : xs = [] := List.eq_nil_of_length_eq_zero hx
        subst hx'
        exact (grow_row0 b g cap n cur w ⟨lr, hb⟩ hg hcm hcs hn (by simpa using hr) (by simpa using hl)).mono fun e w' h => grew_room _ h

theorem IsBuf.setLast {w : World} {b : Nat} {v : Value} {xs : List Int} (h : IsBuf w b v xs) : IsBuf (w.setCell ⟨b, 2, none⟩ (.int .i8 0)) b v xs := by
  have hne := row_ne h.1 h.2
  obtain ⟨⟨lr, hb⟩, ho⟩ := h
  exact ⟨⟨0, Lib.heap_setCell_same (i := 2) hb _⟩, own_move ho (fun k hk => Below.heap_setCell _ _ _ _ (fun e => hne (by rw [hk, e])))⟩

theorem IsBuf.last {w : World} {b : Nat} {v : Value} {xs : List Int} (h : IsBuf w b v xs) : ∃ lr, w.cell? ⟨b, 2, none⟩ = some (.int .i8 lr) ∧ w.frozen? ⟨b, 2, none⟩ = false := by
  obtain ⟨⟨lr, hb⟩, _⟩ := h
  exact ⟨lr, by rw [Lib.cell_of_heap hb]; rfl, Lib.frozen_of_heap hb 2⟩

set_option maxHeartbeats 6400000 in
set_option maxRecDepth 100000 in
/-- Write of at least one byte: p's cells lie in another block than the struct. -/
theorem write_some (b : Nat) (v : Value) (xs ys : List Int) (a : Addr) (c : Nat) (w : World) (h : IsBuf w b v xs) (hy : 1 ≤ ys.length) (hab : a.block ≠ b)
    (hsrc : ∀ j u, (nums .u8 ys)[j]? = some u → w.cell? (a.add j) = some u) (hlim : xs.length + ys.length ≤ 140737488355328) :
    Calls Tryz.prog 107 #[.pointer (some ⟨b, 0, none⟩), .slice (some a) ys.length c] w fun e w' => Wrote w b v (xs ++ ys) (.returned (.tuple #[.int .i64 ys.length, .nilIface])) e w' := by
  obtain ⟨lr, c2, f2⟩ := h.last
  have h' := h.setLast
  have ho0 : Only (fun i => i = b) w (w.setCell ⟨b, 2, none⟩ (.int .i8 0)) := (Only.refl (fun i => i = b) w).setCell (a := ⟨b, 2, none⟩) (fun _ => rfl) _
  have hsz0 : (w.setCell ⟨b, 2, none⟩ (.int .i8 0)).heap.size = w.heap.size := by simp
  obtain ⟨n, hn⟩ : ∃ n, n = ys.length := ⟨_, rfl⟩
  rw [← hn] at hy hlim ⊢
  obtain ⟨l, hl⟩ : ∃ l, l = xs.length := ⟨_, rfl⟩
  rw [← hl] at hlim
  have hinfo : (Tryz.prog.info? 5).map (·.size) = some 1 := by
    obtain ⟨i0, hi, -, hz1, -⟩ := info_parts info_u8
    rw [hi]; simp [hz1]
  -- behind the making of room
  have fin : ∀ W1, Room (w.setCell ⟨b, 2, none⟩ (.int .i8 0)) b v l n (nums .u8 xs) W1 → ∃ (N cap : Nat) (cur : Array Value), W1.cell? ⟨b, 0, none⟩ = some (.slice (some ⟨N, 0, none⟩) (l + n) cap) ∧ l + n ≤ cap ∧ cap ≤ maxLen ∧
      (Builtin.copy_ #[22, 22] 3 #[.slice (some ⟨N, l, none⟩) n (cap - l), .slice (some a) n c]).run Tryz.prog W1 = .ok (goInt n) (W1.setRow N (nums .u8 xs ++ (nums .u8 ys ++ cur.toList.drop (l + n))).toArray) ∧
      Wrote w b v (xs ++ ys) (.returned (.tuple #[.int .i64 n, .nilIface])) (.returned (.tuple #[.int .i64 n, .nilIface])) (W1.setRow N (nums .u8 xs ++ (nums .u8 ys ++ cur.toList.drop (l + n))).toArray) := by
    intro W1 hR
    have hR0 := hR
    obtain ⟨N, cap, cur, r1, r2, r3, r4, r5, r6, r7, r8⟩ := hR
    have hd : W1.cell? ⟨b, 0, none⟩ = some (.slice (some ⟨N, 0, none⟩) (l + n) cap) := by
      obtain ⟨lr', hb'⟩ := r1
      rw [Lib.cell_of_heap hb']; rfl
    have hsrc1 : ∀ j u, (nums .u8 ys)[j]? = some u → W1.cell? (a.add j) = some u := fun j u hj => by
      have hc := hsrc j u hj
      have hlt := World.block_lt_of_cell? w _ hc
      rw [Lib.block_add] at hlt
      rw [World.cell?_of_block (w := w) (by rw [Lib.block_add, r8.block a.block (by rw [hsz0]; exact hlt) hab, Below.heap_setCell _ _ _ _ hab])]
      exact hc
    have hcp := run_copy_row (P := Tryz.prog) W1 22 22 3 5 N l n (cap - l) a n c cur 5 (nums .u8 ys) Tryz.underlying22 hinfo r2 (by rw [nums_length, hn]; exact (Nat.min_self _).symm) hsrc1 (by rw [nums_length]; omega) (nums_one ys)
    rw [r6, nums_length, ← hn, List.append_assoc] at hcp
    refine ⟨N, cap, cur, hd, r4, r5, hcp, ?_⟩
    subst hn hl
    have hrw := room_written hR0 N cap cur r1 r2 r3 r4 r5 r6 r7 r8
    rw [List.append_assoc] at hrw
    obtain ⟨e1, v', q1, q2, q3⟩ := hrw
    refine ⟨rfl, v', q1, ?_, ho0.mono (fun i _ hi => Or.inl hi) |>.trans q3 (fun i _ hi => hi)⟩
    rw [hsz0] at q2
    exact q2
  have T := tryGrow_room b v xs n _ h' hy
  rw [← hl] at T
  clear h' h hsrc hl hn
  have FIN := Lib.hid fin
  clear fin
  rcases T with T | ⟨T1, T2⟩
  · go_enter Tryz.func107, Tryz.ntmps107
    go_wp2_with (go_at_call 132; refine T.mono ?_)
    rintro e W1 ⟨rfl, hR⟩
    obtain ⟨N, cap, cur, d0, hnc, hcm, hcp, hW⟩ := FIN.out W1 hR
    have hcm' := hcm
    unfold maxLen at hcm'
    have hne : ¬ cap = l := by omega
    have HW := Lib.hid hW
    clear hW hR T FIN c2 f2
    go_wp2
    go_ret2
    exact HW.out
  · have T2' := T2 hlim
    go_enter Tryz.func107, Tryz.ntmps107
    go_wp2_with (first | (go_at_call 132; refine T1.mono ?_; rintro e W0 ⟨rfl, rfl⟩) | (go_at_call 133; refine T2'.mono ?_))
    rintro e W1 ⟨rfl, hR⟩
    obtain ⟨N, cap, cur, d0, hnc, hcm, hcp, hW⟩ := FIN.out W1 hR
    have hcm' := hcm
    unfold maxLen at hcm'
    have hne : ¬ cap = l := by omega
    have HW := Lib.hid hW
    clear hW hR T1 T2 T2' FIN c2 f2
    go_wp2
    go_ret2
    exact HW.out

theorem IsBuf.shape {w : World} {b : Nat} {v : Value} {xs : List Int} (h : IsBuf w b v xs) : ∃ ao cap, v = .slice ao xs.length cap ∧ xs.length ≤ cap ∧ cap ≤ maxLen ∧ w.cell? ⟨b, 0, none⟩ = some v ∧ w.frozen? ⟨b, 0, none⟩ = false := by
  obtain ⟨⟨lr, hb⟩, hlen, ho⟩ := h
  have c0 : w.cell? ⟨b, 0, none⟩ = some v := by rw [Lib.cell_of_heap hb]; rfl
  rcases ho with ⟨rfl, h0⟩ | ⟨g, cap, cur, rfl, -, hg, hnc, hcm, hcs, htk⟩
  · exact ⟨none, 0, by rw [h0], by omega, by unfold maxLen; omega, c0, Lib.frozen_of_heap hb 0⟩
  · exact ⟨_, cap, rfl, hnc, hcm, c0, Lib.frozen_of_heap hb 0⟩

theorem IsBuf.setSame {w : World} {b : Nat} {v : Value} {xs : List Int} (h : IsBuf w b v xs) : IsBuf (w.setCell ⟨b, 0, none⟩ v) b v xs := by
  have hne := row_ne h.1 h.2
  obtain ⟨⟨lr, hb⟩, ho⟩ := h
  exact ⟨⟨lr, Lib.heap_setCell_same (i := 0) hb _⟩, own_move ho (fun k hk => Below.heap_setCell _ _ _ _ (fun e => hne (by rw [hk, e])))⟩

set_option maxHeartbeats 6400000 in
set_option maxRecDepth 100000 in
/-- Write of no byte. -/
theorem write_none (b : Nat) (v : Value) (xs : List Int) (ao : Option Addr) (c : Nat) (w : World) (h : IsBuf w b v xs) :
    Calls Tryz.prog 107 #[.pointer (some ⟨b, 0, none⟩), .slice ao 0 c] w fun e w' => Wrote w b v xs (.returned (.tuple #[.int .i64 0, .nilIface])) e w' := by
  obtain ⟨lr, c2, f2⟩ := h.last
  have h' := h.setLast
  have ho0 : Only (fun i => i = b) w (w.setCell ⟨b, 2, none⟩ (.int .i8 0)) := (Only.refl (fun i => i = b) w).setCell (a := ⟨b, 2, none⟩) (fun _ => rfl) _
  have hinfo : (Tryz.prog.info? 5).map (·.size) = some 1 := by
    obtain ⟨i0, hi, -, hz1, -⟩ := info_parts info_u8
    rw [hi]; simp [hz1]
  have hce : ∀ d dLen dCap W, (Builtin.copy_ #[22, 22] 3 #[.slice d dLen dCap, .slice ao 0 c]).run Tryz.prog W = .ok (goInt 0) W := fun d dLen dCap W =>
    run_copy_none W 22 22 3 5 d ao dLen dCap 0 c Tryz.underlying22 hinfo (by simp)
  obtain ⟨ab, cap, hv, hlc, hcm, d0, f0⟩ := h'.shape
  obtain ⟨l, hl⟩ : ∃ l, l = xs.length := ⟨_, rfl⟩
  rw [← hl] at hv hlc
  subst hv
  have h2 := h'.setSame
  have FIN : Hid (Wrote w b (.slice ab l cap) xs (.returned (.tuple #[.int .i64 0, .nilIface])) (.returned (.tuple #[.int .i64 0, .nilIface])) ((w.setCell ⟨b, 2, none⟩ (.int .i8 0)).setCell ⟨b, 0, none⟩ (.slice ab l cap))) :=
    ⟨rfl, _, h2, Or.inl rfl, (ho0.setCell (a := ⟨b, 0, none⟩) (fun _ => rfl) _).mono fun i _ hi => Or.inl hi⟩
  have T := Tryz.Buffer_tryGrow_room b ab l cap 0 _ d0 f0 hlc hcm (Nat.zero_le _)
  have g0 : ((w.setCell ⟨b, 2, none⟩ (.int .i8 0)).setCell ⟨b, 0, none⟩ (.slice ab l cap)).cell? ⟨b, 0, none⟩ = some (.slice ab l cap) := World.cell?_setCell_same _ _ _ d0
  have hcm' := hcm
  unfold maxLen at hcm'
  clear h h' h2 ho0 d0 f0 hl
  go_enter Tryz.func107, Tryz.ntmps107
  go_wp2_with (go_at_call 132; refine T.mono ?_)
  rintro e W1 ⟨rfl, rfl⟩
  clear T c2 f2
  rcases Nat.decEq cap l with hcl | hcl
  · go_wp2
    go_ret2
    exact FIN.out
  · subst hcl
    go_wp2
    go_ret2
    exact FIN.out

/-- Write of any bytes at an address in another block than the struct. -/
theorem write_any (b : Nat) (v : Value) (xs ys : List Int) (a : Addr) (c : Nat) (w : World) (h : IsBuf w b v xs) (hab : a.block ≠ b)
    (hsrc : ∀ j u, (nums .u8 ys)[j]? = some u → w.cell? (a.add j) = some u) (hlim : xs.length + ys.length ≤ 140737488355328) :
    Calls Tryz.prog 107 #[.pointer (some ⟨b, 0, none⟩), .slice (some a) ys.length c] w fun e w' => Wrote w b v (xs ++ ys) (.returned (.tuple #[.int .i64 ys.length, .nilIface])) e w' := by
  by_cases hy : 1 ≤ ys.length
  · exact write_some b v xs ys a c w h hy hab hsrc hlim
  · have hy0 : ys = [] := List.eq_nil_of_length_eq_zero (by omega)
    subst hy0
    rw [List.append_nil]
    exact write_none b v xs (some a) c w h
end Go.Proofs.YteockihoefbmdaaGreatDoor.Buf
/-! ### 55. Reps told from the front, no append: for rows of one-cell elements and of wider ones -/
namespace Go.Proofs.YteockihoefbmdaaGreatDoorW.PrintWords
/-- One cell an element. -/
theorem Reps.one {α : Type} {R : α → List Value → Prop} {ps : List α} {cs : List Value} {p : α} {v : Value} (hp : R p [v]) (h : Reps R 1 ps cs) : Reps R 1 (p :: ps) (v :: cs) := by
  refine ⟨by simp [h.1], fun j q hq => ?_⟩
  cases j with
  | zero =>
    simp only [List.getElem?_cons_zero, Option.some.injEq] at hq
    subst hq
    simpa using hp
  | succ j =>
    simp only [List.getElem?_cons_succ] at hq
    have h1 := h.2 j q hq
    simpa [Nat.mul_one] using h1
end Go.Proofs.YteockihoefbmdaaGreatDoorW.PrintWords
/-! ### 57. A region of open order by ONE relation over what is listed so far: each operation is shown once, whatever came up before it -/
namespace Go.Proofs.YteockihoefbmdaaGreatDoorW.PrintLast
/-- Number i is listed too. -/
def up (b : Nat → Bool) (i : Nat) : Nat → Bool := fun j => if j = i then true else b j
section
/-! The frame: what is listed has its destination filled. -/
end
end Go.Proofs.YteockihoefbmdaaGreatDoorW.PrintLast
/-! ### 58. A guarded operation whose guard is known to want it: the same goal without the guard -/
namespace Go.Proofs.YteockihoefbmdaaGreatDoorW.PrintWords
open Go.RowKit
section
variable {P : Program} {ops : Array Oper} {rest : List Oper} {o : Oper} {a : Act} {Q : Exit → Act → World → Prop} {W : World}
/-- The gate takes the guard off (hw: 'by rfl', 'by kernel_rfl': the guard's slot holds what is wanted). -/
theorem gate_guard (hw : Region.wanted o (yielded ops a.tmps) = true) (h : wpList P ops Q ({ o with guard := none } :: rest) a W) : wpList P ops Q (o :: rest) a W := by
  have h1 : Region.wanted { o with guard := none } (yielded ops a.tmps) = true := rfl
  unfold wpList at h ⊢
  rw [if_pos h1] at h
  rw [if_pos hw]
  exact h
end
end Go.Proofs.YteockihoefbmdaaGreatDoorW.PrintWords
namespace Go.Proofs.YteockihoefbmdaaGreatDoor.PFnEncode
open Go.RowKit Go.Proofs.YteockihoefbmdaaGreatDoorW.PrintWords Go.Proofs.YteockihoefbmdaaGreatDoorW.PrintLast Go.Proofs.YteockihoefbmdaaGreatDoorW.PrintMore
attribute [local go_sem] max2_int min2_int max_two min_two max_three min_three max_four min_four   -- for this text's walks alone
set_option linter.unusedVariables false
set_option linter.unusedSimpArgs false

theorem info5 : (Tryz.prog.info? 5).map (fun i => (i.zero, i.size, i.bytes)) = some (some (.int .u8 0), 1, 1) := by kernel_rfl
theorem info9 : (Tryz.prog.info? 9).map (fun i => (i.zero, i.size, i.bytes)) = some (some (.string ⟨#[]⟩), 1, 16) := by kernel_rfl
theorem info60 : (Tryz.prog.info? 60).map (fun i => (i.zero, i.size, i.bytes)) = some (some (.agg #[(.string ⟨#[]⟩), (.slice none 0 0)]), 2, 40) := by kernel_rfl
-- the values' own types
def rd_L4 (xs : List (List Int)) (i : Int) : (List Int) := xs.getD i.toNat ([] : List Int)
theorem at_L4 {w : World} {A : Option Addr} {n : Nat} {xs : List (List Int)} (h : Kd.C (Kd.slice 5 (Kd.int .u8)) w A n xs) (i : Int) (h0 : 0 ≤ i) (h1 : i < n) : ∃ ad A0 c0, A = some ad ∧ w.cell? (ad.add i.toNat) = some (.slice A0 (rd_L4 xs i).length c0) ∧ (rd_L4 xs i).length ≤ c0 ∧ (Kd.int .u8).C w A0 (rd_L4 xs i).length (rd_L4 xs i) := by
  obtain ⟨ad, c, e, _, hK, hc0⟩ := Kd.C_get h ([] : List Int) i h0 h1
  have hc : ∀ j u, c[j]? = some u → w.cell? (ad.add (i.toNat * 1 + j)) = some u := hc0
  obtain ⟨A0, c0, rfl, l0, g0⟩ := hK
  exact ⟨ad, A0, c0, e, by have hq := hc 0 _ rfl; rwa [Nat.mul_one, Nat.add_zero] at hq, l0, g0⟩

/-! #### struct type 34, nested in itself -/
structure S34 where
  f0 : Int
  f1 : Int
  f2 : Bool
  f3 : (List Int)
  f4 : (List S34)
def z34 : S34 := ⟨(0 : Int), (0 : Int), false, ([] : List Int), ([] : List S34)⟩
def F34 (d : Kd S34) : Kd S34 := Kd.iso (Kd.pair (Kd.int .i64) (Kd.pair (Kd.int .i64) (Kd.pair Kd.bool (Kd.pair (Kd.slice 5 (Kd.int .u8)) (Kd.slice 34 d))))) (fun x : S34 => (x.f0, x.f1, x.f2, x.f3, x.f4))
theorem mono34 : Kd.Mono F34 := Kd.mono_iso _ (Kd.mono_pair (Kd.mono_const _) (Kd.mono_pair (Kd.mono_const _) (Kd.mono_pair (Kd.mono_const _) (Kd.mono_pair (Kd.mono_const _) (Kd.mono_slice 34 Kd.mono_id)))))
theorem sub34 : Kd.Sub F34 [5, 34] := Kd.sub_iso _ (Kd.sub_pair (Kd.sub_const _ (by decide)) (Kd.sub_pair (Kd.sub_const _ (by decide)) (Kd.sub_pair (Kd.sub_const _ (by decide)) (Kd.sub_pair (Kd.sub_const _ (by decide)) (Kd.sub_slice 34 (by decide) Kd.sub_id)))))
theorem sz34 : ∀ n, (Kd.upto F34 5 [5, 34] n).sz = 5 := Kd.upto_sz (fun _ => rfl)
def k34 : Kd S34 := Kd.fix F34 5 [5, 34] sz34 (Kd.upto_E sub34)
theorem k34_open {w : World} {x : S34} {cs : List Value} (h : k34.K w x cs) : ∃ A3 c3 A4 c4, cs = [.int .i64 x.f0, .int .i64 x.f1, .bool x.f2, .slice A3 x.f3.length c3, .slice A4 x.f4.length c4] ∧ x.f3.length ≤ c3 ∧ (Kd.int .u8).C w A3 x.f3.length x.f3 ∧ x.f4.length ≤ c4 ∧ k34.C w A4 x.f4.length x.f4 := by
  obtain ⟨n, h⟩ := h
  cases n with
  | zero => exact h.elim
  | succ n =>
    obtain ⟨_, _, rfl, rfl, ⟨_, _, rfl, rfl, ⟨_, _, rfl, rfl, ⟨_, _, rfl, ⟨A3, c3, rfl, l3, g3⟩, ⟨A4, c4, rfl, l4, g4⟩⟩⟩⟩⟩ := h
    exact ⟨A3, c3, A4, c4, rfl, l3, g3, l4, Kd.fix_C g4⟩
theorem k34_mk (w : World) (x : S34) {A3 : Option Addr} {c3 : Nat} (l3 : x.f3.length ≤ c3) (g3 : (Kd.int .u8).C w A3 x.f3.length x.f3) {A4 : Option Addr} {c4 : Nat} (l4 : x.f4.length ≤ c4) (g4 : k34.C w A4 x.f4.length x.f4) : k34.K w x [.int .i64 x.f0, .int .i64 x.f1, .bool x.f2, .slice A3 x.f3.length c3, .slice A4 x.f4.length c4] := by
  obtain ⟨n4, q4⟩ := Kd.fix_C_back mono34 g4
  have r4 := Kd.upto_C_le mono34 sz34 (show n4 ≤ n4 by omega) q4
  exact ⟨n4 + 1, ⟨[.int .i64 x.f0], [.int .i64 x.f1, .bool x.f2, .slice A3 x.f3.length c3, .slice A4 x.f4.length c4], rfl, rfl, ⟨[.int .i64 x.f1], [.bool x.f2, .slice A3 x.f3.length c3, .slice A4 x.f4.length c4], rfl, rfl, ⟨[.bool x.f2], [.slice A3 x.f3.length c3, .slice A4 x.f4.length c4], rfl, rfl, ⟨[.slice A3 x.f3.length c3], [.slice A4 x.f4.length c4], rfl, ⟨A3, c3, rfl, l3, g3⟩, ⟨A4, c4, rfl, l4, r4⟩⟩⟩⟩⟩⟩
theorem k34_mkF (W : World) (ok : Nat → Prop) (x : S34) {A3 : Option Addr} {c3 : Nat} (l3 : x.f3.length ≤ c3) (g3 : Kd.F (Kd.int .u8) W ok A3 x.f3.length x.f3) {A4 : Option Addr} {c4 : Nat} (l4 : x.f4.length ≤ c4) (g4 : Kd.F k34 W ok A4 x.f4.length x.f4) : Kd.FK k34 W ok x [.int .i64 x.f0, .int .i64 x.f1, .bool x.f2, .slice A3 x.f3.length c3, .slice A4 x.f4.length c4] := fun W2 hW => k34_mk W2 x l3 (g3 W2 hW) l4 (g4 W2 hW)
def rd_T34 (xs : List S34) (i : Int) : S34 := xs.getD i.toNat z34
theorem at_T34 {w : World} {A : Option Addr} {n : Nat} {xs : List S34} (h : Kd.C k34 w A n xs) (i : Int) (h0 : 0 ≤ i) (h1 : i < n) : ∃ ad A3 c3 A4 c4, A = some ad ∧ w.cell? (ad.add (i.toNat * 5)) = some (.int .i64 (rd_T34 xs i).f0) ∧ w.cell? ⟨(ad.add (i.toNat * 5)).block, (ad.add (i.toNat * 5)).off + 1, none⟩ = some (.int .i64 (rd_T34 xs i).f1) ∧ w.cell? ⟨(ad.add (i.toNat * 5)).block, (ad.add (i.toNat * 5)).off + 2, none⟩ = some (.bool (rd_T34 xs i).f2) ∧ w.cell? ⟨(ad.add (i.toNat * 5)).block, (ad.add (i.toNat * 5)).off + 3, none⟩ = some (.slice A3 (rd_T34 xs i).f3.length c3) ∧ w.cell? ⟨(ad.add (i.toNat * 5)).block, (ad.add (i.toNat * 5)).off + 4, none⟩ = some (.slice A4 (rd_T34 xs i).f4.length c4) ∧ (rd_T34 xs i).f3.length ≤ c3 ∧ (Kd.int .u8).C w A3 (rd_T34 xs i).f3.length (rd_T34 xs i).f3 ∧ (rd_T34 xs i).f4.length ≤ c4 ∧ k34.C w A4 (rd_T34 xs i).f4.length (rd_T34 xs i).f4 := by
  obtain ⟨ad, c, e, _, hK, hc0⟩ := Kd.C_get h z34 i h0 h1
  have hc : ∀ j u, c[j]? = some u → w.cell? (ad.add (i.toNat * 5 + j)) = some u := hc0
  obtain ⟨A3, c3, A4, c4, rfl, l3, g3, l4, g4⟩ := k34_open hK
  exact ⟨ad, A3, c3, A4, c4, e, hc 0 _ rfl, by rw [← add_field _ _ 1 (by omega)]; exact hc 1 _ rfl, by rw [← add_field _ _ 2 (by omega)]; exact hc 2 _ rfl, by rw [← add_field _ _ 3 (by omega)]; exact hc 3 _ rfl, by rw [← add_field _ _ 4 (by omega)]; exact hc 4 _ rfl, l3, g3, l4, g4⟩

/-! #### struct type 30, nested in itself -/
structure S30 where
  f0 : Int
  f1 : Int
  f2 : Bool
  f3 : (List Int)
  f4 : (List S30)
def z30 : S30 := ⟨(0 : Int), (0 : Int), false, ([] : List Int), ([] : List S30)⟩
def F30 (d : Kd S30) : Kd S30 := Kd.iso (Kd.pair (Kd.int .i64) (Kd.pair (Kd.int .i64) (Kd.pair Kd.bool (Kd.pair (Kd.slice 5 (Kd.int .u8)) (Kd.slice 30 d))))) (fun x : S30 => (x.f0, x.f1, x.f2, x.f3, x.f4))
theorem mono30 : Kd.Mono F30 := Kd.mono_iso _ (Kd.mono_pair (Kd.mono_const _) (Kd.mono_pair (Kd.mono_const _) (Kd.mono_pair (Kd.mono_const _) (Kd.mono_pair (Kd.mono_const _) (Kd.mono_slice 30 Kd.mono_id)))))
theorem sub30 : Kd.Sub F30 [5, 30] := Kd.sub_iso _ (Kd.sub_pair (Kd.sub_const _ (by decide)) (Kd.sub_pair (Kd.sub_const _ (by decide)) (Kd.sub_pair (Kd.sub_const _ (by decide)) (Kd.sub_pair (Kd.sub_const _ (by decide)) (Kd.sub_slice 30 (by decide) Kd.sub_id)))))
theorem sz30 : ∀ n, (Kd.upto F30 5 [5, 30] n).sz = 5 := Kd.upto_sz (fun _ => rfl)
def k30 : Kd S30 := Kd.fix F30 5 [5, 30] sz30 (Kd.upto_E sub30)
theorem k30_open {w : World} {x : S30} {cs : List Value} (h : k30.K w x cs) : ∃ A3 c3 A4 c4, cs = [.int .i64 x.f0, .int .i64 x.f1, .bool x.f2, .slice A3 x.f3.length c3, .slice A4 x.f4.length c4] ∧ x.f3.length ≤ c3 ∧ (Kd.int .u8).C w A3 x.f3.length x.f3 ∧ x.f4.length ≤ c4 ∧ k30.C w A4 x.f4.length x.f4 := by
  obtain ⟨n, h⟩ := h
  cases n with
  | zero => exact h.elim
  | succ n =>
    obtain ⟨_, _, rfl, rfl, ⟨_, _, rfl, rfl, ⟨_, _, rfl, rfl, ⟨_, _, rfl, ⟨A3, c3, rfl, l3, g3⟩, ⟨A4, c4, rfl, l4, g4⟩⟩⟩⟩⟩ := h
    exact ⟨A3, c3, A4, c4, rfl, l3, g3, l4, Kd.fix_C g4⟩
theorem k30_mk (w : World) (x : S30) {A3 : Option Addr} {c3 : Nat} (l3 : x.f3.length ≤ c3) (g3 : (Kd.int .u8).C w A3 x.f3.length x.f3) {A4 : Option Addr} {c4 : Nat} (l4 : x.f4.length ≤ c4) (g4 : k30.C w A4 x.f4.length x.f4) : k30.K w x [.int .i64 x.f0, .int .i64 x.f1, .bool x.f2, .slice A3 x.f3.length c3, .slice A4 x.f4.length c4] := by
  obtain ⟨n4, q4⟩ := Kd.fix_C_back mono30 g4
  have r4 := Kd.upto_C_le mono30 sz30 (show n4 ≤ n4 by omega) q4
  exact ⟨n4 + 1, ⟨[.int .i64 x.f0], [.int .i64 x.f1, .bool x.f2, .slice A3 x.f3.length c3, .slice A4 x.f4.length c4], rfl, rfl, ⟨[.int .i64 x.f1], [.bool x.f2, .slice A3 x.f3.length c3, .slice A4 x.f4.length c4], rfl, rfl, ⟨[.bool x.f2], [.slice A3 x.f3.length c3, .slice A4 x.f4.length c4], rfl, rfl, ⟨[.slice A3 x.f3.length c3], [.slice A4 x.f4.length c4], rfl, ⟨A3, c3, rfl, l3, g3⟩, ⟨A4, c4, rfl, l4, r4⟩⟩⟩⟩⟩⟩
theorem k30_mkF (W : World) (ok : Nat → Prop) (x : S30) {A3 : Option Addr} {c3 : Nat} (l3 : x.f3.length ≤ c3) (g3 : Kd.F (Kd.int .u8) W ok A3 x.f3.length x.f3) {A4 : Option Addr} {c4 : Nat} (l4 : x.f4.length ≤ c4) (g4 : Kd.F k30 W ok A4 x.f4.length x.f4) : Kd.FK k30 W ok x [.int .i64 x.f0, .int .i64 x.f1, .bool x.f2, .slice A3 x.f3.length c3, .slice A4 x.f4.length c4] := fun W2 hW => k30_mk W2 x l3 (g3 W2 hW) l4 (g4 W2 hW)
def rd_T30 (xs : List S30) (i : Int) : S30 := xs.getD i.toNat z30
theorem at_T30 {w : World} {A : Option Addr} {n : Nat} {xs : List S30} (h : Kd.C k30 w A n xs) (i : Int) (h0 : 0 ≤ i) (h1 : i < n) : ∃ ad A3 c3 A4 c4, A = some ad ∧ w.cell? (ad.add (i.toNat * 5)) = some (.int .i64 (rd_T30 xs i).f0) ∧ w.cell? ⟨(ad.add (i.toNat * 5)).block, (ad.add (i.toNat * 5)).off + 1, none⟩ = some (.int .i64 (rd_T30 xs i).f1) ∧ w.cell? ⟨(ad.add (i.toNat * 5)).block, (ad.add (i.toNat * 5)).off + 2, none⟩ = some (.bool (rd_T30 xs i).f2) ∧ w.cell? ⟨(ad.add (i.toNat * 5)).block, (ad.add (i.toNat * 5)).off + 3, none⟩ = some (.slice A3 (rd_T30 xs i).f3.length c3) ∧ w.cell? ⟨(ad.add (i.toNat * 5)).block, (ad.add (i.toNat * 5)).off + 4, none⟩ = some (.slice A4 (rd_T30 xs i).f4.length c4) ∧ (rd_T30 xs i).f3.length ≤ c3 ∧ (Kd.int .u8).C w A3 (rd_T30 xs i).f3.length (rd_T30 xs i).f3 ∧ (rd_T30 xs i).f4.length ≤ c4 ∧ k30.C w A4 (rd_T30 xs i).f4.length (rd_T30 xs i).f4 := by
  obtain ⟨ad, c, e, _, hK, hc0⟩ := Kd.C_get h z30 i h0 h1
  have hc : ∀ j u, c[j]? = some u → w.cell? (ad.add (i.toNat * 5 + j)) = some u := hc0
  obtain ⟨A3, c3, A4, c4, rfl, l3, g3, l4, g4⟩ := k30_open hK
  exact ⟨ad, A3, c3, A4, c4, e, hc 0 _ rfl, by rw [← add_field _ _ 1 (by omega)]; exact hc 1 _ rfl, by rw [← add_field _ _ 2 (by omega)]; exact hc 2 _ rfl, by rw [← add_field _ _ 3 (by omega)]; exact hc 3 _ rfl, by rw [← add_field _ _ 4 (by omega)]; exact hc 4 _ rfl, l3, g3, l4, g4⟩

/-! #### struct type 58 -/
structure S58 where
  f0 : ByteArray
  f1 : (List (List Int))
def z58 : S58 := ⟨(⟨#[]⟩ : ByteArray), ([] : List (List Int))⟩
def k58 : Kd S58 := Kd.iso (Kd.pair Kd.string (Kd.slice 22 (Kd.slice 5 (Kd.int .u8)))) (fun x : S58 => (x.f0, x.f1))
theorem k58_open {w : World} {x : S58} {cs : List Value} (h : k58.K w x cs) : ∃ A1 c1, cs = [.string x.f0, .slice A1 x.f1.length c1] ∧ x.f1.length ≤ c1 ∧ (Kd.slice 5 (Kd.int .u8)).C w A1 x.f1.length x.f1 := by
  obtain ⟨_, _, rfl, rfl, ⟨A1, c1, rfl, l1, g1⟩⟩ := h
  exact ⟨A1, c1, rfl, l1, g1⟩
theorem k58_mk (w : World) (x : S58) {A1 : Option Addr} {c1 : Nat} (l1 : x.f1.length ≤ c1) (g1 : (Kd.slice 5 (Kd.int .u8)).C w A1 x.f1.length x.f1) : k58.K w x [.string x.f0, .slice A1 x.f1.length c1] := ⟨[.string x.f0], [.slice A1 x.f1.length c1], rfl, rfl, ⟨A1, c1, rfl, l1, g1⟩⟩
theorem k58_mkF (W : World) (ok : Nat → Prop) (x : S58) {A1 : Option Addr} {c1 : Nat} (l1 : x.f1.length ≤ c1) (g1 : Kd.F (Kd.slice 5 (Kd.int .u8)) W ok A1 x.f1.length x.f1) : Kd.FK k58 W ok x [.string x.f0, .slice A1 x.f1.length c1] := fun W2 hW => k58_mk W2 x l1 (g1 W2 hW)
def rd_T58 (xs : List S58) (i : Int) : S58 := xs.getD i.toNat z58
theorem at_T58 {w : World} {A : Option Addr} {n : Nat} {xs : List S58} (h : Kd.C k58 w A n xs) (i : Int) (h0 : 0 ≤ i) (h1 : i < n) : ∃ ad A1 c1, A = some ad ∧ w.cell? (ad.add (i.toNat * 2)) = some (.string (rd_T58 xs i).f0) ∧ w.cell? ⟨(ad.add (i.toNat * 2)).block, (ad.add (i.toNat * 2)).off + 1, none⟩ = some (.slice A1 (rd_T58 xs i).f1.length c1) ∧ (rd_T58 xs i).f1.length ≤ c1 ∧ (Kd.slice 5 (Kd.int .u8)).C w A1 (rd_T58 xs i).f1.length (rd_T58 xs i).f1 := by
  obtain ⟨ad, c, e, _, hK, hc0⟩ := Kd.C_get h z58 i h0 h1
  have hc : ∀ j u, c[j]? = some u → w.cell? (ad.add (i.toNat * 2 + j)) = some u := hc0
  obtain ⟨A1, c1, rfl, l1, g1⟩ := k58_open hK
  exact ⟨ad, A1, c1, e, hc 0 _ rfl, by rw [← add_field _ _ 1 (by omega)]; exact hc 1 _ rfl, l1, g1⟩

/-! #### struct type 60 -/
structure S60 where
  f0 : ByteArray
  f1 : (List ByteArray)
def z60 : S60 := ⟨(⟨#[]⟩ : ByteArray), ([] : List ByteArray)⟩
def k60 : Kd S60 := Kd.iso (Kd.pair Kd.string (Kd.slice 9 Kd.string)) (fun x : S60 => (x.f0, x.f1))
theorem k60_open {w : World} {x : S60} {cs : List Value} (h : k60.K w x cs) : ∃ A1 c1, cs = [.string x.f0, .slice A1 x.f1.length c1] ∧ x.f1.length ≤ c1 ∧ Kd.string.C w A1 x.f1.length x.f1 := by
  obtain ⟨_, _, rfl, rfl, ⟨A1, c1, rfl, l1, g1⟩⟩ := h
  exact ⟨A1, c1, rfl, l1, g1⟩
theorem k60_mkM (w : World) (base : Nat) (ok : Nat → Prop) (x : S60) {v1 : Value} (g1 : Kd.string.R 9 w base ok v1 x.f1) : k60.M w base ok x [.string x.f0, v1] := ⟨[.string x.f0], [v1], rfl, rfl, ⟨v1, rfl, g1⟩⟩
def rd_T60 (xs : List S60) (i : Int) : S60 := xs.getD i.toNat z60
theorem at_T60 {w : World} {A : Option Addr} {n : Nat} {xs : List S60} (h : Kd.C k60 w A n xs) (i : Int) (h0 : 0 ≤ i) (h1 : i < n) : ∃ ad A1 c1, A = some ad ∧ w.cell? (ad.add (i.toNat * 2)) = some (.string (rd_T60 xs i).f0) ∧ w.cell? ⟨(ad.add (i.toNat * 2)).block, (ad.add (i.toNat * 2)).off + 1, none⟩ = some (.slice A1 (rd_T60 xs i).f1.length c1) ∧ (rd_T60 xs i).f1.length ≤ c1 ∧ Kd.string.C w A1 (rd_T60 xs i).f1.length (rd_T60 xs i).f1 := by
  obtain ⟨ad, c, e, _, hK, hc0⟩ := Kd.C_get h z60 i h0 h1
  have hc : ∀ j u, c[j]? = some u → w.cell? (ad.add (i.toNat * 2 + j)) = some u := hc0
  obtain ⟨A1, c1, rfl, l1, g1⟩ := k60_open hK
  exact ⟨ad, A1, c1, e, hc 0 _ rfl, by rw [← add_field _ _ 1 (by omega)]; exact hc 1 _ rfl, l1, g1⟩

end Go.Proofs.YteockihoefbmdaaGreatDoor.PFnEncode
