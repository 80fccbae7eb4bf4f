/- laws.packet and laws.answer walked: within at a room of their own. -/
import Derived.Test.YtcohjechpnlogaaDoorWithin
namespace Go.Proofs.YtcohjechpnlogaaDoor.Within
open Go.RowKit Go.Proofs.YtcohjechpnlogaaDoorW.PrintWords Go.Proofs.YtcohjechpnlogaaDoor.PFnEncode Go.Proofs.YtcohjechpnlogaaDoor.Tree Go.Proofs.YtcohjechpnlogaaDoor.Buf
set_option linter.unusedVariables false
set_option linter.unusedSimpArgs false

/-- What reading a packet leaves: the reference's packet x, read now. -/
def Got (w : World) (x : S29) (e : Ending) (w' : World) : Prop :=
  ∃ A3 c3 A4 c4, e = .returned (.agg #[.int .i64 x.f0, .int .i64 x.f1, .bool x.f2, .slice A3 x.f3.length c3, .slice A4 x.f4.length c4]) ∧ x.f3.length ≤ c3 ∧ (Kd.int .u8).C w' A3 x.f3.length x.f3 ∧ x.f4.length ≤ c4 ∧ k29.C w' A4 x.f4.length x.f4 ∧ Below w.heap.size w w'

/-- the end of both -/
theorem pk_end {w W W3 : World} {B : Nat} {x : S29} {A5 A6 : Option Addr} {c5 c6 : Nat} {z0 z1 z2 z3 z4 : Value} (hb : Below w.heap.size w W) (hres : W.heap[w.heap.size + 1]? = some (.cells #[z0, z1, z2, z3, z4] 29 (0, 0))) (hB : w.heap.size + 1 < B) (l5 : x.f3.length ≤ c5) (g5 : (Kd.int .u8).C w A5 x.f3.length x.f3) (r5 : (km w).R 29 W B (fun _ => True) (.slice A6 x.f4.length c6) x.f4)
    (hW3 : W3 = (((((W.setCell ⟨w.heap.size + 1, 0, none⟩ (.int .i64 x.f0)).setCell ⟨w.heap.size + 1, 1, none⟩ (.int .i64 x.f1)).setCell ⟨w.heap.size + 1, 2, none⟩ (.bool x.f2)).setCell ⟨w.heap.size + 1, 3, none⟩ (.slice A5 x.f3.length c5)).setCell ⟨w.heap.size + 1, 4, none⟩ (.slice A6 x.f4.length c6))) :
    W3.heap[w.heap.size + 1]? = some (.cells #[.int .i64 x.f0, .int .i64 x.f1, .bool x.f2, .slice A5 x.f3.length c5, .slice A6 x.f4.length c6] 29 (0, 0)) ∧ Got w x (.returned (.agg #[.int .i64 x.f0, .int .i64 x.f1, .bool x.f2, .slice A5 x.f3.length c5, .slice A6 x.f4.length c6])) W3 := by
  have h5 := blk_set (blk_set (blk_set (blk_set (blk_set hres 0 (.int .i64 x.f0)) 1 (.int .i64 x.f1)) 2 (.bool x.f2)) 3 (.slice A5 x.f3.length c5)) 4 (.slice A6 x.f4.length c6)
  rw [← hW3] at h5
  have hb3 : Below w.heap.size w W3 := by
    rw [hW3]
    exact ((((hb.setCell (p := ⟨w.heap.size + 1, 0, none⟩) (by show w.heap.size ≤ w.heap.size + 1; omega) _).setCell (p := ⟨w.heap.size + 1, 1, none⟩) (by show w.heap.size ≤ w.heap.size + 1; omega) _).setCell (p := ⟨w.heap.size + 1, 2, none⟩) (by show w.heap.size ≤ w.heap.size + 1; omega) _).setCell (p := ⟨w.heap.size + 1, 3, none⟩) (by show w.heap.size ≤ w.heap.size + 1; omega) _).setCell (p := ⟨w.heap.size + 1, 4, none⟩) (by show w.heap.size ≤ w.heap.size + 1; omega) _
  have hr : (km w).R 29 W3 B (fun k => k ≠ w.heap.size + 1) (.slice A6 x.f4.length c6) x.f4 := by
    have h0 : (km w).R 29 W B (fun k => k ≠ w.heap.size + 1) (.slice A6 x.f4.length c6) x.f4 := Kd.R_mono (Kd.R_bound r5) (fun k hk => by have := hk.2.1; omega)
    rw [hW3]
    exact Kd.R_far (Kd.R_far (Kd.R_far (Kd.R_far (Kd.R_far h0 (p := ⟨w.heap.size + 1, 0, none⟩) (fun k hk => hk) _) (p := ⟨w.heap.size + 1, 1, none⟩) (fun k hk => hk) _) (p := ⟨w.heap.size + 1, 2, none⟩) (fun k hk => hk) _) (p := ⟨w.heap.size + 1, 3, none⟩) (fun k hk => hk) _) (p := ⟨w.heap.size + 1, 4, none⟩) (fun k hk => hk) _
  obtain ⟨_, l6, r6⟩ := Kd.R_reads' hr
  exact ⟨h5, A5, c5, A6, c6, rfl, l5, Kd.C_below g5 hb3, l6, Kd.C_read (dm := km w) (d := k29) rfl (fun x cs hp => km_read hb3 hp) r6, hb3⟩

set_option maxHeartbeats 6400000 in
set_option maxRecDepth 100000 in
theorem packet_any (p : S25) (A3 : Option Addr) (c3 : Nat) (A4 : Option Addr) (c4 : Nat) (w : World) (h3 : (Kd.int .u8).C w A3 p.f3.length p.f3) (l3 : p.f3.length ≤ c3) (h4 : k25.C w A4 p.f4.length p.f4) (l4 : p.f4.length ≤ c4) (hln : lens p = true) :
    Calls Tryd.prog 7 #[.agg #[.int .i64 p.f0, .int .i64 p.f1, .bool p.f2, .slice A3 p.f3.length c3, .slice A4 p.f4.length c4]] w (Got w (wi 20 p 5000).1) := by
  obtain ⟨W1, hW1⟩ : ∃ W1, W1 = ((w.alloc (.cells #[.int .i64 p.f0, .int .i64 p.f1, .bool p.f2, .slice A3 p.f3.length c3, .slice A4 p.f4.length c4] 25)).alloc (.cells #[.int .i64 0, .int .i64 0, .bool false, .slice none 0 0, .slice none 0 0] 29)).alloc (.cells #[.int .i64 5000] 3) := ⟨_, rfl⟩
  have hb : Below w.heap.size w W1 := by rw [hW1]; exact below_alloc (below_alloc (below_alloc (Below.refl _ _) _) _) _
  have hrm : W1.heap[w.heap.size + 1 + 1]? = some (.cells #[.int .i64 5000] 3 (0, 0)) := by
    have := blk_new ((w.alloc (.cells #[.int .i64 p.f0, .int .i64 p.f1, .bool p.f2, .slice A3 p.f3.length c3, .slice A4 p.f4.length c4] 25)).alloc (.cells #[.int .i64 0, .int .i64 0, .bool false, .slice none 0 0, .slice none 0 0] 29)) (.cells #[.int .i64 5000] 3)
    rw [hW1]
    simpa using this
  have hres : W1.heap[w.heap.size + 1]? = some (.cells #[.int .i64 0, .int .i64 0, .bool false, .slice none 0 0, .slice none 0 0] 29 (0, 0)) := by
    have := blk_alloc (blk_new (w.alloc (.cells #[.int .i64 p.f0, .int .i64 p.f1, .bool p.f2, .slice A3 p.f3.length c3, .slice A4 p.f4.length c4] 25)) (.cells #[.int .i64 0, .int .i64 0, .bool false, .slice none 0 0, .slice none 0 0] 29)) (.cells #[.int .i64 5000] 3)
    rw [hW1]
    simpa using this
  have HC : Hid (Calls Tryd.prog 22 #[.agg #[.int .i64 p.f0, .int .i64 p.f1, .bool p.f2, .slice A3 p.f3.length c3, .slice A4 p.f4.length c4], .int .i64 20, .pointer (some ⟨w.heap.size + 1 + 1, 0, none⟩)] W1 (Read w W1 (w.heap.size + 1 + 1) (wi 20 p 5000).1 (wi 20 p 5000).2)) :=
    Lib.hid (within_any w 20 (by omega) p A3 c3 A4 c4 5000 (w.heap.size + 1 + 1) W1 h3 l3 h4 l4 hln (by omega) (by omega) hrm (by omega) hb)
  obtain ⟨x, hx⟩ : ∃ x, x = (wi 20 p 5000).1 := ⟨_, rfl⟩
  rw [← hx] at HC ⊢
  have HX := Lib.hid hx
  have HB := Lib.hid hb
  have HRES := Lib.hid hres
  have HW1 := Lib.hid hW1
  clear hx hb hres hrm hW1 h3 h4 hln
  go_enter Tryd.func7, Tryd.ntmps7
  go_wp2_with fail
  rw [← HW1.out]
  refine HC.out.mono ?_
  rintro e W4 ⟨c, rfl, hM, hrm4, hon4⟩
  obtain ⟨A5, c5, v5, rfl, l5, g5, r5⟩ := km_openM hM
  obtain ⟨A6, c6, rfl, l6, r6⟩ := Kd.R_reads r5
  have hB4 : Below w.heap.size w W4 := HB.out.trans (hon4.below HB.out.size (fun i hi => by omega))
  have hres4 : W4.heap[w.heap.size + 1]? = some (.cells #[.int .i64 0, .int .i64 0, .bool false, .slice none 0 0, .slice none 0 0] 29 (0, 0)) := (hon4.block _ (blk_lt HRES.out) (by show ¬ _ = w.heap.size + 1 + 1; omega)).trans HRES.out
  clear l6 r6
  have kf0 : W4.frozen? ⟨w.heap.size + 1, 0, none⟩ = false := blk_frozen hres4 0
  have kf1 : W4.frozen? ⟨w.heap.size + 1, 1, none⟩ = false := blk_frozen hres4 1
  have kf2 : W4.frozen? ⟨w.heap.size + 1, 2, none⟩ = false := blk_frozen hres4 2
  have kf3 : W4.frozen? ⟨w.heap.size + 1, 3, none⟩ = false := blk_frozen hres4 3
  have kf4 : W4.frozen? ⟨w.heap.size + 1, 4, none⟩ = false := blk_frozen hres4 4
  have k0 : W4.cell? ⟨w.heap.size + 1, 0, none⟩ = some (.int .i64 0) := blk_cell hres4 0
  have k1 : W4.cell? ⟨w.heap.size + 1, 1, none⟩ = some (.int .i64 0) := blk_cell hres4 1
  have k2 : W4.cell? ⟨w.heap.size + 1, 2, none⟩ = some (.bool false) := blk_cell hres4 2
  have k3 : W4.cell? ⟨w.heap.size + 1, 3, none⟩ = some (.slice none 0 0) := blk_cell hres4 3
  have k4 : W4.cell? ⟨w.heap.size + 1, 4, none⟩ = some (.slice none 0 0) := blk_cell hres4 4
  have R5 := Lib.hid r5
  have G5 := Lib.hid g5
  have HR4 := Lib.hid hres4
  have HB4 := Lib.hid hB4
  have HRM4 := Lib.hid (blk_lt HRES.out)
  clear r5 g5 hres4 hB4 hM hrm4 hon4
  go_wp2
  obtain ⟨h5, hend⟩ := pk_end (x := x) HB4.out HR4.out (by have := HRM4.out; omega) l5 G5.out R5.out rfl
  try simp only [Exit.inBlock, Exit.then]
  exact bodyPost_ret (results_c rfl _ _ _ _ _ _ _ rfl h5 Tryd.underlying29 rfl size29) rfl hend

end Go.Proofs.YtcohjechpnlogaaDoor.Within
