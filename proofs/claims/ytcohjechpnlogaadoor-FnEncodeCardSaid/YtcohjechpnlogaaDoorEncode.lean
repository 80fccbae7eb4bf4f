/- ber.Encode with no value: a new packet without data. No condition. -/
import Derived.Test.YtcohjechpnlogaaDoorPk
namespace Go.Proofs.YtcohjechpnlogaaDoor.Ber
open Go.RowKit Go.Proofs.YtcohjechpnlogaaDoorW.PrintWords Go.Proofs.YtcohjechpnlogaaDoor.Buf Go.Proofs.YtcohjechpnlogaaDoor.Pk
set_option linter.unusedVariables false
set_option linter.unusedSimpArgs false

/-- A packet without data. -/
def bare (cls typ tag : Int) (val : Value) (desc : ByteArray) : Pk := ⟨cls, typ, tag, val, [], [], [], desc⟩

/-- What a maker of packets leaves: a new packet, the old memory as it was. -/
def Made (w : World) (x : Pk) (e : Ending) (w' : World) : Prop := ∃ b, e = .returned (.pointer (some ⟨b, 0, none⟩)) ∧ IsPk w' w.heap.size (fun _ => True) b x ∧ Below w.heap.size w w'

theorem mk_kids : ∀ w : World, (Instr.makeSlice 73 (.int .i64 0) (.int .i64 2)).run Tryd.prog w = .ok (.slice (some ⟨w.heap.size, 0, none⟩) 0 2) (w.alloc (.cells #[.pointer none, .pointer none] 46)) := fun _ => by kernel_rfl

/-- The three blocks that Encode lays. -/
def freshW (w : World) (cls typ tag : Int) (val : Value) (desc : ByteArray) : World :=
  (((w.alloc (.cells #[.int .u8 cls, .int .u8 typ, .int .u64 tag, val, .slice none 0 0, .pointer (some ⟨w.heap.size + 1, 0, none⟩), .slice (some ⟨w.heap.size + 1 + 1, 0, none⟩) 0 2, .string desc] T)).alloc
    (.cells #[.slice none 0 0, .int .i64 0, .int .i8 0] TB)).alloc (.cells #[.pointer none, .pointer none] TP))

theorem fresh_below (w : World) (a b c : Obj) : Below w.heap.size w (((w.alloc a).alloc b).alloc c) :=
  (((Below.refl _ w).alloc (Nat.le_refl _) a).alloc (by simp) b).alloc (by simp; omega) c

theorem fresh_pk (w : World) (cls typ tag : Int) (val : Value) (desc : ByteArray) (hv : val.oneCell' = true) : IsPk (freshW w cls typ tag val desc) w.heap.size (fun _ => True) w.heap.size (bare cls typ tag val desc) := by
  have h0 : (freshW w cls typ tag val desc).heap[w.heap.size]? = some (.cells (cellsOf (bare cls typ tag val desc) (.slice none 0 0) (w.heap.size + 1) (.slice (some ⟨w.heap.size + 1 + 1, 0, none⟩) 0 2)) T (0, 0)) := by
    unfold freshW
    rw [Below.heap_alloc _ _ _ (by simp; omega), Below.heap_alloc _ _ _ (by simp)]
    exact heap_alloc_new w _
  have h1 : (freshW w cls typ tag val desc).heap[w.heap.size + 1]? = some (.cells #[.slice none 0 0, .int .i64 0, .int .i8 0] TB (0, 0)) := by
    unfold freshW
    rw [Below.heap_alloc _ _ _ (by simp)]
    have := heap_alloc_new (w.alloc (.cells #[.int .u8 cls, .int .u8 typ, .int .u64 tag, val, .slice none 0 0, .pointer (some ⟨w.heap.size + 1, 0, none⟩), .slice (some ⟨w.heap.size + 1 + 1, 0, none⟩) 0 2, .string desc] T)) (.cells #[.slice none 0 0, .int .i64 0, .int .i8 0] TB)
    simpa using this
  have h2 : (freshW w cls typ tag val desc).heap[w.heap.size + 1 + 1]? = some (.cells #[.pointer none, .pointer none] TP (0, 0)) := by
    unfold freshW
    have := heap_alloc_new ((w.alloc (.cells #[.int .u8 cls, .int .u8 typ, .int .u64 tag, val, .slice none 0 0, .pointer (some ⟨w.heap.size + 1, 0, none⟩), .slice (some ⟨w.heap.size + 1 + 1, 0, none⟩) 0 2, .string desc] T)).alloc (.cells #[.slice none 0 0, .int .i64 0, .int .i8 0] TB)) (.cells #[.pointer none, .pointer none] TP)
    simpa using this
  refine mk_M ⟨hv, w.heap.size, w.heap.size + 1, .slice none 0 0, .slice none 0 0, .slice (some ⟨w.heap.size + 1 + 1, 0, none⟩) 0 2, 0, rfl, ⟨trivial, Nat.le_refl _⟩, ⟨trivial, by omega⟩, h0, h1, Kd.R_nil _ _ _ _ _, Kd.R_nil _ _ _ _ _, ?_, [], ?_, Reps.none _ _⟩
  · intro k hk
    simp [Value.ownBlock] at hk
    subst hk
    exact ⟨trivial, by omega, by omega, by simp [Value.ownBlock]⟩
  · exact ⟨rfl, .inr ⟨w.heap.size + 1 + 1, 2, _, rfl, by omega, h2, by simp [bare], by unfold maxLen; omega, rfl, rfl⟩⟩

set_option maxHeartbeats 3200000 in
set_option maxRecDepth 100000 in
theorem encode_nil (cls typ tag : Int) (desc : ByteArray) (w : World) :
    Calls Tryd.prog 41 #[.int .u8 cls, .int .u8 typ, .int .u64 tag, .nilIface, .string desc] w fun e w' => Made w (bare cls typ tag .nilIface desc) e w' := by
  have hmk := mk_kids
  go_enter Tryd.func41, Tryd.ntmps41
  go_wp2
  go_ret
  exact ⟨_, rfl, fresh_pk w cls typ tag .nilIface desc rfl, fresh_below w _ _ _⟩
end Go.Proofs.YtcohjechpnlogaaDoor.Ber
