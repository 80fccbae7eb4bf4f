/- spec.Rename leaves the packet of RFC 4511. Strings are at most as long as Go's own limit. -/
import Derived.Test.YtbmcpjkhnhbjdaaDoorKRow
namespace Go.Proofs.YtbmcpjkhnhbjdaaDoor.Ber
open Go.RowKit Go.Proofs.YtbmcpjkhnhbjdaaDoorW.PrintWords Go.Proofs.YtbmcpjkhnhbjdaaDoor.PFnEncode Go.Proofs.YtbmcpjkhnhbjdaaDoor.Buf Go.Proofs.YtbmcpjkhnhbjdaaDoor.Pk Go.Proofs.YtbmcpjkhnhbjdaaDoor.Within Go.Proofs.YtbmcpjkhnhbjdaaDoor.Num
set_option linter.unusedVariables false
set_option linter.unusedSimpArgs false

theorem small4 {α : Type} (l : List α) (h : l.length = 3) : (l.length + 1) * 72 ≤ 140737488355328 := by rw [h]; omega
/-- a truth value -/
def tB (b : Bool) : S33 := ⟨0, 1, false, [if b then 255 else 0], []⟩
/-- the kids of a request to rename -/
def lRename (dn rd : ByteArray) (old : Bool) (sp : ByteArray) : List S33 := [tO dn, tO rd, tB old] ++ (if sp.toList.isEmpty then [] else [⟨2, 0, false, bytesOf sp, []⟩])

set_option maxHeartbeats 3200000 in
set_option maxRecDepth 100000 in
theorem sRenameN_nw (dn rd : ByteArray) (old : Bool) (sp : ByteArray) (w : World) (hdn : dn.size ≤ 140737488355328) (hrd : rd.size ≤ 140737488355328) (hsp : sp.size ≤ 140737488355328) (hem : sp.toList.isEmpty = true) :
    Calls Tryd.prog 16 #[.string dn, .string rd, .bool old, .string sp] w (Nw w.heap.size w (tOp 12 (lRename dn rd old sp))) := by
  have HO1 : Hid (∀ W, Calls Tryd.prog 47 #[.string dn] W (Nw W.heap.size W (tO dn))) := Lib.hid (fun W => octets_nw dn W hdn)
  have HO2 : Hid (∀ W, Calls Tryd.prog 47 #[.string rd] W (Nw W.heap.size W (tO rd))) := Lib.hid (fun W => octets_nw rd W hrd)
  have HO3 : Hid (∀ W, Calls Tryd.prog 50 #[.bool old] W (Nw W.heap.size W (tB old))) := Lib.hid (fun W => truth_nw old W)
  have HO4 : Hid (∀ W, Calls Tryd.prog 47 #[.string sp] W (Nw W.heap.size W (tO sp))) := Lib.hid (fun W => octets_nw sp W hsp)
  obtain ⟨x1, hx1⟩ : ∃ x, x = tO dn := ⟨_, rfl⟩
  obtain ⟨x2, hx2⟩ : ∃ x, x = tO rd := ⟨_, rfl⟩
  obtain ⟨x3, hx3⟩ : ∃ x, x = tB old := ⟨_, rfl⟩
  obtain ⟨xo, hxo⟩ : ∃ x, x = tO sp := ⟨_, rfl⟩
  rw [← hx1] at HO1
  rw [← hx2] at HO2
  rw [← hx3] at HO3
  rw [← hxo] at HO4
  have HT4 : Hid (∀ (A3 : Option Addr) (c3 : Nat) (A4 : Option Addr) (c4 : Nat) (b : Nat) (W : World), Lies b W xo A3 c3 A4 c4 → b ≤ W.heap.size → Calls Tryd.prog 51 #[.int .i64 2, .int .i64 0, .agg #[.int .i64 xo.f0, .int .i64 xo.f1, .bool xo.f2, .slice A3 xo.f3.length c3, .slice A4 xo.f4.length c4]] W (Nw b W ⟨2, 0, xo.f2, xo.f3, xo.f4⟩)) := Lib.hid (fun A3 c3 A4 c4 b W h hb => tagged_nw 2 0 xo A3 c3 A4 c4 W h.1 h.2.1 h.2.2.1 h.2.2.2 hb)
  obtain ⟨x4, hx4⟩ : ∃ x : S33, x = ⟨2, 0, xo.f2, xo.f3, xo.f4⟩ := ⟨_, rfl⟩
  rw [← hx4] at HT4
  have hl : lRename dn rd old sp = [x1, x2, x3] := by
    unfold lRename
    rw [hx1, hx2, hx3, hem]
    rfl
  rw [hl]
  obtain ⟨W0, hW0⟩ : ∃ W0, W0 = w.alloc (.cells #[.int .i64 0, .int .i64 0, .bool false, .slice none 0 0, .slice none 0 0] 33) := ⟨_, rfl⟩
  have hb0 : Below w.heap.size w W0 := by rw [hW0]; exact below_alloc (Below.refl _ _) _
  have hz0 : W0.heap[w.heap.size]? = some (.cells #[.int .i64 0, .int .i64 0, .bool false, .slice none 0 0, .slice none 0 0] 33 (0, 0)) := by rw [hW0]; exact blk_new _ _
  have hs0 : W0.heap.size = w.heap.size + 1 := by rw [hW0]; simp
  have HBW := Lib.hid hb0
  have HZ0 := Lib.hid hz0
  have HS0 := Lib.hid hs0
  have HW0 := Lib.hid hW0
  clear hl hx1 hx2 hx3 hx4 hxo hdn hrd hsp hb0 hz0 hs0 hW0
  go_enter Tryd.func16, Tryd.ntmps16
  go_upto_region 2 with (first
    | (go_at_call 47
       first
       | (rw [← HW0.out]
          with_reducible refine (HO1.out W0).mono ?_
          rintro e W1 h1
          obtain ⟨A3, c3, A4, c4, rfl, hl1, hB1⟩ := h1.open
          have HL1 := Lib.hid hl1
          have HZ1 := Lib.hid (blk_below HZ0.out hB1)
          have HB1 := Lib.hid hB1
          clear h1 hl1 hB1)
       | (with_reducible refine (HO2.out W1).mono ?_
          rintro e W2 h2
          obtain ⟨B3, d3, B4, d4, rfl, hl2, hB2⟩ := h2.open
          have HL2 := Lib.hid (hl2.low HB1.out.size)
          have HL12 := Lib.hid (HL1.out.below hB2)
          have HZ2 := Lib.hid (blk_below HZ1.out hB2)
          have HB2 := Lib.hid (HB1.out.trans (hB2.mono HB1.out.size))
          clear h2 hl2 hB2))
    | (go_at_call 50
       with_reducible refine (HO3.out W2).mono ?_
       rintro e W3 h3
       obtain ⟨D3, e3, D4, e4, rfl, hl3, hB3⟩ := h3.open
       have HL3 := Lib.hid (hl3.low HB2.out.size)
       have HL13 := Lib.hid (HL12.out.below hB3)
       have HL23 := Lib.hid (HL2.out.below hB3)
       have HZ3 := Lib.hid (blk_below HZ2.out hB3)
       have HB3 := Lib.hid (HB2.out.trans (hB3.mono HB2.out.size))
       clear h3 hl3 hB3)
    | (go_at_call 46
       obtain ⟨V, hV⟩ : ∃ V, V = W3.alloc (.cells #[.int .i64 x1.f0, .int .i64 x1.f1, .bool x1.f2, .slice A3 x1.f3.length c3, .slice A4 x1.f4.length c4, .int .i64 x2.f0, .int .i64 x2.f1, .bool x2.f2, .slice B3 x2.f3.length d3, .slice B4 x2.f4.length d4, .int .i64 x3.f0, .int .i64 x3.f1, .bool x3.f2, .slice D3 x3.f3.length e3, .slice D4 x3.f4.length e4] 33) := ⟨_, rfl⟩
       rw [← hV]
       have hbV : Below W3.heap.size W3 V := by rw [hV]; exact below_alloc (Below.refl _ _) _
       have hsV : V.heap.size = W3.heap.size + 1 := by rw [hV]; simp
       with_reducible refine (operation_ex 12 (some ⟨W3.heap.size, 0, none⟩) 3 3 V).mono ?_
       rintro e W4 ⟨rfl, hB4⟩
       have hlt4 : W3.heap.size < W4.heap.size := by have := hB4.size; omega
       have hK : KRow W0.heap.size (fun k => k ≠ W4.heap.size) V (.slice (some ⟨W3.heap.size, 0, none⟩) 3 3) [x1, x2, x3] [cellsP x1 A3 c3 A4 c4, cellsP x2 B3 d3 B4 d4, cellsP x3 D3 e3 D4 e4] := krow3 hV HB3.out.size (fun k hk => by omega) HL13.out HL23.out HL3.out
       have hb4 := hbV.trans (hB4.mono hbV.size)
       have HK4 := Lib.hid (hK.below hB4)
       have HZ4 := Lib.hid (blk_below HZ3.out hb4)
       have HB4 := Lib.hid (HB3.out.trans (hb4.mono HB3.out.size))
       have HLT := Lib.hid hlt4
       clear hV hbV hsV hlt4 hK hb4 hB4))
  obtain ⟨W5, hW5⟩ : ∃ W5, W5 = W4.alloc (.cells #[.int .i64 1, .int .i64 12, .bool true, .slice none 0 0, .slice (some ⟨W3.heap.size, 0, none⟩) 3 3] 33) := ⟨_, rfl⟩
  have hb5 : Below W4.heap.size W4 W5 := by rw [hW5]; exact below_alloc (Below.refl _ _) _
  have HK5 := Lib.hid (HK4.out.below hb5)
  have HZ5 := Lib.hid (blk_below HZ4.out hb5)
  have HX5 : Hid (W5.heap[W4.heap.size]? = some (.cells #[.int .i64 1, .int .i64 12, .bool true, .slice none 0 0, .slice (some ⟨W3.heap.size, 0, none⟩) 3 3] 33 (0, 0))) := Lib.hid (by rw [hW5]; exact blk_new _ _)
  have HC5 := Lib.hid (HB4.out.trans (hb5.mono HB4.out.size))
  have HB5 := Lib.hid (HBW.out.trans (HC5.out.mono HBW.out.size))
  have HW5 := Lib.hid hW5
  rw [← hW5]
  clear hW5 hb5
  have k0 : W5.cell? ⟨w.heap.size, 0, none⟩ = some (.int .i64 0) := blk_cell HZ5.out 0
  have k1 : W5.cell? ⟨w.heap.size, 1, none⟩ = some (.int .i64 0) := blk_cell HZ5.out 1
  have k2 : W5.cell? ⟨w.heap.size, 2, none⟩ = some (.bool false) := blk_cell HZ5.out 2
  have k3 : W5.cell? ⟨w.heap.size, 3, none⟩ = some (.slice none 0 0) := blk_cell HZ5.out 3
  have k4 : W5.cell? ⟨w.heap.size, 4, none⟩ = some (.slice none 0 0) := blk_cell HZ5.out 4
  have kf0 := blk_frozen HZ5.out 0
  have kf1 := blk_frozen HZ5.out 1
  have kf2 := blk_frozen HZ5.out 2
  have kf3 := blk_frozen HZ5.out 3
  have kf4 := blk_frozen HZ5.out 4
  have s0 : W5.cell? ⟨W4.heap.size, 0, none⟩ = some (.int .i64 1) := blk_cell HX5.out 0
  have s1 : W5.cell? ⟨W4.heap.size, 1, none⟩ = some (.int .i64 12) := blk_cell HX5.out 1
  have s2 : W5.cell? ⟨W4.heap.size, 2, none⟩ = some (.bool true) := blk_cell HX5.out 2
  have s3 : W5.cell? ⟨W4.heap.size, 3, none⟩ = some (.slice none 0 0) := blk_cell HX5.out 3
  have s4 : W5.cell? ⟨W4.heap.size, 4, none⟩ = some (.slice (some ⟨W3.heap.size, 0, none⟩) 3 3) := blk_cell HX5.out 4
  go_wp2
  obtain ⟨Ar, cr, hvr, hlr, hF⟩ := HK5.out.read (by simp)
  injection hvr with q1 q2 q3
  subst q1
  obtain ⟨h5, hend⟩ := nw_end (b := w.heap.size) (B := W0.heap.size) (n := w.heap.size) (x := tOp 12 [x1, x2, x3]) HB5.out (Nat.le_refl _) (fun k hk => by have := HS0.out; omega) (by have := HS0.out; omega) HZ5.out (A5 := none) (c5 := 0) (Nat.le_refl _) (Kd.F_nil _ _ _) (A6 := some ⟨W3.heap.size, 0, none⟩) (c6 := 3) (Nat.le_refl _) (Kd.F_mono hF (fun k hk => hk.1)) rfl
  try simp only [Exit.inBlock, Exit.then]
  exact bodyPost_ret (results_c rfl _ _ _ _ _ _ _ rfl h5 Tryd.underlying33 rfl size33) rfl hend
end Go.Proofs.YtbmcpjkhnhbjdaaDoor.Ber
