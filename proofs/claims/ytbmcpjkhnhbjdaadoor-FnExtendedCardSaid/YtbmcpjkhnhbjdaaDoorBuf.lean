/- A bytes.Buffer that is only written, wherever it lies, with an exact frame: (*bytes.Buffer).grow and Write change the buffer's struct and its own row alone; a new row is a new block. No condition but Go's own limit on sizes. -/
import Derived.Test.YtbmcpjkhnhbjdaaDoorShelf
import Derived.Test.YtbmcpjkhnhbjdaaDoorWWords
import Derived.Test.YtbmcpjkhnhbjdaaDoorWMore
import Derived.WalkKit
import Derived.KernelRfl
import Derived.RegionTactic
import Derived.Deep.RegionWith
import Derived.Deep.Draws
import Derived.BigCall
import Derived.BigGuard
import Derived.Lib.Hide
import Derived.Lib.Walk
import Derived.Lib.BufferGrow
import Derived.Lib.BufferWrite
import Derived.Lib.BufferMore
import Derived.Lib.BufferOwn
import Derived.Laws.IdiomCopy
import Derived.Laws.MakeOwn
import Derived.Deep.OwnRows
import Derived.Outline
namespace Go.Proofs.YtbmcpjkhnhbjdaaDoor.Buf
open Go.RowKit Go.Proofs.YtbmcpjkhnhbjdaaDoorW.PrintWords
set_option linter.unusedVariables false
set_option linter.unusedSimpArgs false

/-- Nothing that was there has changed but for blocks of S. -/
structure Only (S : Nat → Prop) (w w' : World) : Prop where
  os : w'.os = w.os
  tape : w'.tape = w.tape
  output : w'.output = w.output
  size : w.heap.size ≤ w'.heap.size
  block : ∀ i, i < w.heap.size → ¬ S i → w'.heap[i]? = w.heap[i]?

theorem Only.refl (S : Nat → Prop) (w : World) : Only S w w := ⟨rfl, rfl, rfl, Nat.le_refl _, fun _ _ _ => rfl⟩
theorem Only.trans {S S' : Nat → Prop} {a b c : World} (h : Only S a b) (k : Only S' b c) (hs : ∀ i, i < a.heap.size → S' i → S i) : Only S a c :=
  ⟨k.os.trans h.os, k.tape.trans h.tape, k.output.trans h.output, Nat.le_trans h.size k.size, fun i hi hn => (k.block i (by have := h.size; omega) (fun hc => hn (hs i hi hc))).trans (h.block i hi hn)⟩
theorem Only.mono {S S' : Nat → Prop} {a b : World} (h : Only S a b) (hs : ∀ i, i < a.heap.size → S i → S' i) : Only S' a b :=
  ⟨h.os, h.tape, h.output, h.size, fun i hi hn => h.block i hi (fun hc => hn (hs i hi hc))⟩
theorem Only.of_below {w w' : World} (S : Nat → Prop) (h : Below w.heap.size w w') : Only S w w' := ⟨h.os, h.tape, h.output, h.size, fun i hi _ => h.block i hi⟩
theorem Only.below {S : Nat → Prop} {B : Nat} {w w' : World} (h : Only S w w') (hB : B ≤ w.heap.size) (hs : ∀ i, S i → B ≤ i) : Below B w w' :=
  ⟨h.os, h.tape, h.output, h.size, fun i hi => h.block i (by omega) (fun hc => by have := hs i hc; omega)⟩
theorem Only.setCell {S : Nat → Prop} {w w' : World} (h : Only S w w') {a : Addr} (ha : a.block < w.heap.size → S a.block) (v : Value) : Only S w (w'.setCell a v) :=
  ⟨h.os, h.tape, h.output, by simpa using h.size, fun i hi hn => (Below.heap_setCell w' a v i (fun e => by subst e; exact hn (ha hi))).trans (h.block i hi hn)⟩
theorem Only.alloc {S : Nat → Prop} {w w' : World} (h : Only S w w') (o : Obj) : Only S w (w'.alloc o) :=
  ⟨h.os, h.tape, h.output, by simp; have := h.size; omega, fun i hi hn => (Below.heap_alloc w' o i (by have := h.size; omega)).trans (h.block i hi hn)⟩
theorem Only.drew {S : Nat → Prop} {w w' : World} (h : Only S w w') : Only S w w'.drew := ⟨h.os, h.tape, h.output, h.size, h.block⟩
theorem Only.drewN {S : Nat → Prop} {w w' : World} (h : Only S w w') (n : Nat) : Only S w (w'.drewN n) := ⟨h.os, h.tape, h.output, h.size, h.block⟩

/-- Block b is a Buffer's struct whose slice is v, nothing read. -/
def Hdr (w : World) (b : Nat) (v : Value) : Prop := ∃ lr, w.heap[b]? = some (.cells #[v, .int .i64 0, .int .i8 lr] 207 (0, 0))
/-- .. that holds the bytes xs. -/
def IsBuf (w : World) (b : Nat) (v : Value) (xs : List Int) : Prop := Hdr w b v ∧ w.ownsRow 0 5 1 v xs.length (nums .u8 xs)

theorem row_ne {w : World} {b : Nat} {v v' : Value} {n s : Nat} {cs : List Value} {B : Nat} (h : Hdr w b v') (ho : w.ownsRow B 5 s v n cs) : v.ownBlock ≠ some b := by
  intro e
  obtain ⟨lr, hb⟩ := h
  obtain ⟨cells, hc⟩ := own_typed ho b e
  rw [hc] at hb
  injection hb with hb
  injection hb with _ hb
  exact absurd hb (by decide)

theorem IsBuf.shelf {w : World} {b : Nat} {v : Value} {xs : List Int} (h : IsBuf w b v xs) : Lib.IsBuffer 207 5 0 b (nums .u8 xs) w := by
  obtain ⟨⟨lr, hb⟩, ho⟩ := h
  exact ⟨Nat.zero_le _, v, lr, hb, by rw [nums_length]; exact ho, row_ne ⟨lr, hb⟩ ho⟩

theorem info_u8 : (Tryd.prog.info? 5).map (fun i => (i.zero, i.size, i.bytes)) = some (some (.int .u8 0), 1, 1) := by kernel_rfl

/-- What grow leaves: a new row N with the old bytes and room for n more, as long as they. -/
def Grew (w : World) (b l n : Nat) (cs : List Value) (e : Ending) (w' : World) : Prop :=
  e = .returned (.int .i64 l) ∧ ∃ N cap cur, w.heap.size ≤ N ∧ Hdr w' b (.slice (some ⟨N, 0, none⟩) (l + n) cap) ∧ w'.heap[N]? = some (.cells cur 5 (0, 0)) ∧ cur.size = cap ∧ l + n ≤ cap ∧ cap ≤ maxLen ∧ cur.toList.take l = cs ∧ Only (fun i => i = b) w w'

set_option maxHeartbeats 6400000 in
set_option maxRecDepth 100000 in
theorem grow_nil_small (b n : Nat) (w : World) (h : Hdr w b (.slice none 0 0)) (hn : 1 ≤ n) (h64 : n ≤ 64) :
    Calls Tryd.prog 107 #[.pointer (some ⟨b, 0, none⟩), .int .i64 n] w (Grew w b 0 n []) := by
  obtain ⟨lr, hbk⟩ := h
  have hIs : Lib.IsBuffer 207 5 0 b [] w := ⟨Nat.zero_le _, _, _, hbk, World.ownsRow_nil _ _ _ _, by simp [Value.ownBlock]⟩
  obtain ⟨i0, hi, hz0, hz1, hz2⟩ := info_parts info_u8
  obtain ⟨M, hM⟩ : ∃ M, M = madeCells (Value.int .u8 0).cells ((64 : Int).toNat * i0.size) := ⟨_, rfl⟩
  have hMs : M.size = 64 := by rw [hM, size_madeCells, hz1]; rfl
  have hmk : ∀ W : World, (Instr.makeSlice 24 (.int .i64 (n : Int)) (.int .i64 64)).run Tryd.prog W = .ok (.slice (some ⟨W.heap.size, 0, none⟩) n 64) (W.alloc (.cells M 5)) := fun W => by
    have h := run_makeSlice (P := Tryd.prog) W 24 5 i0 (.int .u8 0) Tryd.underlying24 hi hz0 .i64 .i64 (n : Int) 64 (by omega) (by omega) (by rw [hz1]; decide) (by rw [hz2]; decide) (by decide)
    rw [← hM] at h
    simpa using h
  clear hM
  have hnil : ∀ W, (binOp .eql 24 (.slice none 0 0) (.slice none 0 0)).run Tryd.prog W = .ok (.bool true) W := fun W => Lib.run_eql_slice_nil_nil W _ _ Tryd.underlying24
  go_enter Tryd.func107, Tryd.ntmps107
  go_wp2_with (go_at_call 111; refine (Tryd.Buffer_Len 0 b [] _ hIs).mono ?_)
  rintro e W0 ⟨rfl, k, hW0⟩
  have hbk0 : W0.heap[b]? = some (.cells #[.slice none 0 0, .int .i64 0, .int .i8 lr] 207 (0, 0)) := by rw [hW0]; exact hbk
  have c0 : W0.cell? ⟨b, 0, none⟩ = some (.slice none 0 0) := by rw [Lib.cell_of_heap hbk0]; rfl
  have c1 : W0.cell? ⟨b, 1, none⟩ = some (.int .i64 0) := by rw [Lib.cell_of_heap hbk0]; rfl
  have f0 : W0.frozen? ⟨b, 0, none⟩ = false := Lib.frozen_of_heap hbk0 0
  have f1 : W0.frozen? ⟨b, 1, none⟩ = false := Lib.frozen_of_heap hbk0 1
  have hbW0 := Lib.lt_of_heap hbk0
  have c0a : ∀ o, (W0.alloc o).cell? ⟨b, 0, none⟩ = some (.slice none 0 0) := fun o => (World.cell?_of_block (a := ⟨b, 0, none⟩) (Below.heap_alloc W0 o b hbW0)).trans c0
  have f0a : ∀ o, (W0.alloc o).frozen? ⟨b, 0, none⟩ = false := fun o => (World.frozen?_of_block (a := ⟨b, 0, none⟩) (Below.heap_alloc W0 o b hbW0)).trans f0
  have HW0 := Lib.hid hW0
  have HBK := Lib.hid hbk0
  clear hW0 hIs hbk hbk0
  go_wp2_with (go_at_call 106; refine (Tryd.Buffer_tryGrow_none b _ 0 0 n _ c0 (Nat.le_refl _) (Nat.zero_le _) (by omega)).mono ?_; rintro e w' ⟨rfl, rfl⟩)
  go_ret
  have hsz : w'.heap.size = w.heap.size := by rw [HW0.out]; rfl
  have hon : Only (fun i => i = b) w w' := by rw [HW0.out]; exact (Only.refl _ w).drewN _
  have hh := Lib.heap_setCell_same (i := 0) HBK.out (.slice (some ⟨w'.heap.size, 0, none⟩) n 64)
  have hs2 : (w'.setCell ⟨b, 0, none⟩ (.slice (some ⟨w'.heap.size, 0, none⟩) n 64)).heap.size = w'.heap.size := by simp
  have hnew := heap_alloc_new (w'.setCell ⟨b, 0, none⟩ (.slice (some ⟨w'.heap.size, 0, none⟩) n 64)) (.cells M 5)
  rw [hs2] at hnew
  refine ⟨rfl, w'.heap.size, 64, M, by omega, ⟨lr, ?_⟩, hnew, hMs, by omega, by unfold maxLen; omega, by simp, (hon.setCell (a := ⟨b, 0, none⟩) (fun _ => rfl) _).alloc _⟩
  rw [Nat.zero_add, Below.heap_alloc _ _ b (by rw [hs2]; exact hbW0)]; exact hh


/-- grow's end behind growSlice: three stores into the struct. -/
theorem grew_end {w w0 w2 : World} {b l n cap2 : Nat} {cs : List Value} {v0 v1 : Value} {lr : Int} {cells : Array Value} (hon : Only (fun i => i = b) w w0) (hsz : w0.heap.size = w.heap.size) (hb : b < w0.heap.size)
    (hbk2 : w2.heap[b]? = some (.cells #[v0, .int .i64 0, .int .i8 lr] 207 (0, 0))) (hN : w2.heap[w0.heap.size]? = some (.cells cells 5 (0, 0))) (hcs : cells.size = cap2) (htk : cells.toList.take l = cs)
    (hcap : l + n ≤ cap2) (hcm : cap2 ≤ maxLen) (hbel : Below w0.heap.size w0 w2) :
    Grew w b l n cs (.returned (.int .i64 l)) (((w2.setCell ⟨b, 0, none⟩ v1).setCell ⟨b, 1, none⟩ (.int .i64 0)).setCell ⟨b, 0, none⟩ (.slice (some ⟨w0.heap.size, 0, none⟩) (l + n) cap2)) := by
  have hNb : w0.heap.size ≠ b := by omega
  refine ⟨rfl, w0.heap.size, cap2, cells, by omega, ⟨lr, Lib.heap_setCell_same (i := 0) (Lib.heap_setCell_same (i := 1) (Lib.heap_setCell_same (i := 0) hbk2 v1) (.int .i64 0)) _⟩, ?_, hcs, hcap, hcm, htk, ?_⟩
  · rw [Below.heap_setCell _ _ _ _ hNb, Below.heap_setCell _ _ _ _ hNb, Below.heap_setCell _ _ _ _ hNb]
    exact hN
  · exact (((hon.trans (Only.of_below (fun i => i = b) hbel) (fun _ _ h => h)).setCell (a := ⟨b, 0, none⟩) (fun _ => rfl) _).setCell (a := ⟨b, 1, none⟩) (fun _ => rfl) _).setCell (a := ⟨b, 0, none⟩) (fun _ => rfl) _
end Go.Proofs.YtbmcpjkhnhbjdaaDoor.Buf
