/- (*bytes.Buffer).grow where growSlice makes the new row. No condition but Go's own limit on sizes. -/
import Derived.Test.YtbmcpjkhnhbjdaaDoorBuf
namespace Go.Proofs.YtbmcpjkhnhbjdaaDoor.Buf
open Go.RowKit Go.Proofs.YtbmcpjkhnhbjdaaDoorW.PrintWords
set_option linter.unusedVariables false
set_option linter.unusedSimpArgs false

set_option maxHeartbeats 12800000 in
set_option maxRecDepth 100000 in
theorem grow_nil_big (b n : Nat) (w : World) (h : Hdr w b (.slice none 0 0)) (h64 : 64 < n) (hlim : n ≤ 140737488355328) :
    Calls Tryd.prog 107 #[.pointer (some ⟨b, 0, none⟩), .int .i64 n] w (Grew w b 0 n []) := by
  obtain ⟨lr, hbk⟩ := h
  have hIs : Lib.IsBuffer 207 5 0 b [] w := ⟨Nat.zero_le _, _, _, hbk, World.ownsRow_nil _ _ _ _, by simp [Value.ownBlock]⟩
  have hnil : ∀ W, (binOp .eql 24 (.slice none 0 0) (.slice none 0 0)).run Tryd.prog W = .ok (.bool true) W := fun W => Lib.run_eql_slice_nil_nil W _ _ Tryd.underlying24
  have hn : 1 ≤ n := by omega
  go_enter Tryd.func107, Tryd.ntmps107
  go_wp2_with (go_at_call 111; refine (Tryd.Buffer_Len 0 b [] _ hIs).mono ?_)
  rintro e W0 ⟨rfl, k, hW0⟩
  have hbk0 : W0.heap[b]? = some (.cells #[.slice none 0 0, .int .i64 0, .int .i8 lr] 207 (0, 0)) := by rw [hW0]; exact hbk
  have c0 : W0.cell? ⟨b, 0, none⟩ = some (.slice none 0 0) := by rw [Lib.cell_of_heap hbk0]; rfl
  have c1 : W0.cell? ⟨b, 1, none⟩ = some (.int .i64 0) := by rw [Lib.cell_of_heap hbk0]; rfl
  have f0 : W0.frozen? ⟨b, 0, none⟩ = false := Lib.frozen_of_heap hbk0 0
  have f1 : W0.frozen? ⟨b, 1, none⟩ = false := Lib.frozen_of_heap hbk0 1
  have HW0 := Lib.hid hW0
  have hbW := Lib.lt_of_heap hbk0
  clear hW0 hIs hbk
  go_wp2_with (go_at_call 106; refine (Tryd.Buffer_tryGrow_none b _ 0 0 n _ c0 (Nat.le_refl _) (Nat.zero_le _) (by omega)).mono ?_; rintro e w' ⟨rfl, rfl⟩)
  have hwn : IntKind.i64.wrap (n : Int) = n := by rw [IntKind.wrap_i64]; omega
  go_region_with (
      go_at_call 113
      refine (Tryd.bytes_growSlice_nil n _ hn hlim).mono ?_
      rintro e w2 ⟨cap2, cells, rfl, hN, hcsz, hcap2, hcm2, hbel⟩
      have hbk2 : w2.heap[b]? = some (.cells #[.slice none 0 0, .int .i64 0, .int .i8 lr] 207 (0, 0)) := (hbel.block b hbW).trans hbk0
      have d0 : w2.cell? ⟨b, 0, none⟩ = some (.slice none 0 0) := by rw [Lib.cell_of_heap hbk2]; rfl
      have d1 : w2.cell? ⟨b, 1, none⟩ = some (.int .i64 0) := by rw [Lib.cell_of_heap hbk2]; rfl
      have e0 : w2.frozen? ⟨b, 0, none⟩ = false := Lib.frozen_of_heap hbk2 0
      have e1 : w2.frozen? ⟨b, 1, none⟩ = false := Lib.frozen_of_heap hbk2 1)
  all_goals (
    go_wp2
    go_ret
    have hsz0 : w'.drew.heap.size = w.heap.size := by rw [HW0.out]; rfl
    have hon : Only (fun i => i = b) w w'.drew := by rw [HW0.out]; exact ((Only.refl _ w).drewN _).drew
    have r := grew_end (l := 0) (n := n) (cs := []) (v1 := .slice (some ⟨w'.drew.heap.size, 0, none⟩) 0 cap2) hon hsz0 hbW hbk2 hN hcsz (by simp) (by omega) hcm2 hbel
    simpa using r)
end Go.Proofs.YtbmcpjkhnhbjdaaDoor.Buf
