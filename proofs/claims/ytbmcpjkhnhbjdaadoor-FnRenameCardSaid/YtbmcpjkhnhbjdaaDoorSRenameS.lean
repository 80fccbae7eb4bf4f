/- spec.Rename, with a superior: leaves the packet of RFC 4511. Strings are at most as long as Go's own limit. -/
import Derived.Test.YtbmcpjkhnhbjdaaDoorSRename
namespace Go.Proofs.YtbmcpjkhnhbjdaaDoor.Ber
open Go.RowKit Go.Proofs.YtbmcpjkhnhbjdaaDoorW.PrintWords Go.Proofs.YtbmcpjkhnhbjdaaDoor.PFnEncode Go.Proofs.YtbmcpjkhnhbjdaaDoor.Buf Go.Proofs.YtbmcpjkhnhbjdaaDoor.Pk Go.Proofs.YtbmcpjkhnhbjdaaDoor.Within Go.Proofs.YtbmcpjkhnhbjdaaDoor.Num
set_option linter.unusedVariables false
set_option linter.unusedSimpArgs false

set_option maxHeartbeats 3200000 in
set_option maxRecDepth 100000 in
theorem sRenameS_nw (dn rd : ByteArray) (old : Bool) (sp : ByteArray) (w : World) (hdn : dn.size ≤ 140737488355328) (hrd : rd.size ≤ 140737488355328) (hsp : sp.size ≤ 140737488355328) (hem : sp.toList.isEmpty = false) :
    Calls Tryd.prog 16 #[.string dn, .string rd, .bool old, .string sp] w (Nw w.heap.size w (tOp 12 (lRename dn rd old sp))) := by
  have HO1 : Hid (∀ W, Calls Tryd.prog 47 #[.string dn] W (Nw W.heap.size W (tO dn))) := Lib.hid (fun W => octets_nw dn W hdn)
  have HO2 : Hid (∀ W, Calls Tryd.prog 47 #[.string rd] W (Nw W.heap.size W (tO rd))) := Lib.hid (fun W => octets_nw rd W hrd)
  have HO3 : Hid (∀ W, Calls Tryd.prog 50 #[.bool old] W (Nw W.heap.size W (tB old))) := Lib.hid (fun W => truth_nw old W)
  have HO4 : Hid (∀ W, Calls Tryd.prog 47 #[.string sp] W (Nw W.heap.size W (tO sp))) := Lib.hid (fun W => octets_nw sp W hsp)
  obtain ⟨x1, hx1⟩ : ∃ x, x = tO dn := ⟨_, rfl⟩
  obtain ⟨x2, hx2⟩ : ∃ x, x = tO rd := ⟨_, rfl⟩
  obtain ⟨x3, hx3⟩ : ∃ x, x = tB old := ⟨_, rfl⟩
  obtain ⟨xo, hxo⟩ : ∃ x, x = tO sp := ⟨_, rfl⟩
  rw [← hx1] at HO1
  rw [← hx2] at HO2
  rw [← hx3] at HO3
  rw [← hxo] at HO4
  have HT4 : Hid (∀ (A3 : Option Addr) (c3 : Nat) (A4 : Option Addr) (c4 : Nat) (b : Nat) (W : World), Lies b W xo A3 c3 A4 c4 → b ≤ W.heap.size → Calls Tryd.prog 51 #[.int .i64 2, .int .i64 0, .agg #[.int .i64 xo.f0, .int .i64 xo.f1, .bool xo.f2, .slice A3 xo.f3.length c3, .slice A4 xo.f4.length c4]] W (Nw b W ⟨2, 0, xo.f2, xo.f3, xo.f4⟩)) := Lib.hid (fun A3 c3 A4 c4 b W h hb => tagged_nw 2 0 xo A3 c3 A4 c4 W h.1 h.2.1 h.2.2.1 h.2.2.2 hb)
  obtain ⟨x4, hx4⟩ : ∃ x : S33, x = ⟨2, 0, xo.f2, xo.f3, xo.f4⟩ := ⟨_, rfl⟩
  rw [← hx4] at HT4
  obtain ⟨l, hl0⟩ : ∃ l, l = [x1, x2, x3] := ⟨_, rfl⟩
  have hl : lRename dn rd old sp = l ++ [x4] := by
    unfold lRename
    rw [hl0, hx1, hx2, hx3, hx4, hxo, hem]
    rfl
  have HL0 := Lib.hid hl0
  have HLN : Hid ((l ++ [x4]).length ≤ 9223372036854775807) := Lib.hid (by rw [hl0]; simp)
  rw [hl]
  obtain ⟨W0, hW0⟩ : ∃ W0, W0 = w.alloc (.cells #[.int .i64 0, .int .i64 0, .bool false, .slice none 0 0, .slice none 0 0] 33) := ⟨_, rfl⟩
  have hb0 : Below w.heap.size w W0 := by rw [hW0]; exact below_alloc (Below.refl _ _) _
  have hz0 : W0.heap[w.heap.size]? = some (.cells #[.int .i64 0, .int .i64 0, .bool false, .slice none 0 0, .slice none 0 0] 33 (0, 0)) := by rw [hW0]; exact blk_new _ _
  have hs0 : W0.heap.size = w.heap.size + 1 := by rw [hW0]; simp
  have HBW := Lib.hid hb0
  have HZ0 := Lib.hid hz0
  have HS0 := Lib.hid hs0
  have HW0 := Lib.hid hW0
  clear hl hl0 hx1 hx2 hx3 hx4 hxo hdn hrd hsp hb0 hz0 hs0 hW0
  go_enter Tryd.func16, Tryd.ntmps16
  go_upto_region 2 with (first
    | (go_at_call 47
       first
       | (rw [← HW0.out]
          with_reducible refine (HO1.out W0).mono ?_
          rintro e W1 h1
          obtain ⟨A3, c3, A4, c4, rfl, hl1, hB1⟩ := h1.open
          have HL1 := Lib.hid hl1
          have HZ1 := Lib.hid (blk_below HZ0.out hB1)
          have HB1 := Lib.hid hB1
          clear h1 hl1 hB1)
       | (with_reducible refine (HO2.out W1).mono ?_
          rintro e W2 h2
          obtain ⟨B3, d3, B4, d4, rfl, hl2, hB2⟩ := h2.open
          have HL2 := Lib.hid (hl2.low HB1.out.size)
          have HL12 := Lib.hid (HL1.out.below hB2)
          have HZ2 := Lib.hid (blk_below HZ1.out hB2)
          have HB2 := Lib.hid (HB1.out.trans (hB2.mono HB1.out.size))
          clear h2 hl2 hB2))
    | (go_at_call 50
       with_reducible refine (HO3.out W2).mono ?_
       rintro e W3 h3
       obtain ⟨D3, e3, D4, e4, rfl, hl3, hB3⟩ := h3.open
       have HL3 := Lib.hid (hl3.low HB2.out.size)
       have HL13 := Lib.hid (HL12.out.below hB3)
       have HL23 := Lib.hid (HL2.out.below hB3)
       have HZ3 := Lib.hid (blk_below HZ2.out hB3)
       have HB3 := Lib.hid (HB2.out.trans (hB3.mono HB2.out.size))
       clear h3 hl3 hB3)
    | (go_at_call 46
       obtain ⟨V, hV⟩ : ∃ V, V = W3.alloc (.cells #[.int .i64 x1.f0, .int .i64 x1.f1, .bool x1.f2, .slice A3 x1.f3.length c3, .slice A4 x1.f4.length c4, .int .i64 x2.f0, .int .i64 x2.f1, .bool x2.f2, .slice B3 x2.f3.length d3, .slice B4 x2.f4.length d4, .int .i64 x3.f0, .int .i64 x3.f1, .bool x3.f2, .slice D3 x3.f3.length e3, .slice D4 x3.f4.length e4] 33) := ⟨_, rfl⟩
       rw [← hV]
       have hbV : Below W3.heap.size W3 V := by rw [hV]; exact below_alloc (Below.refl _ _) _
       have hsV : V.heap.size = W3.heap.size + 1 := by rw [hV]; simp
       with_reducible refine (operation_ex 12 (some ⟨W3.heap.size, 0, none⟩) 3 3 V).mono ?_
       rintro e W4 ⟨rfl, hB4⟩
       have hlt4 : W3.heap.size < W4.heap.size := by have := hB4.size; omega
       have hK : KRow W0.heap.size (fun k => k ≠ W4.heap.size) V (.slice (some ⟨W3.heap.size, 0, none⟩) 3 3) [x1, x2, x3] [cellsP x1 A3 c3 A4 c4, cellsP x2 B3 d3 B4 d4, cellsP x3 D3 e3 D4 e4] := krow3 hV HB3.out.size (fun k hk => by omega) HL13.out HL23.out HL3.out
       have hb4 := hbV.trans (hB4.mono hbV.size)
       have HK4 := Lib.hid (hK.below hB4)
       have HZ4 := Lib.hid (blk_below HZ3.out hb4)
       have HB4 := Lib.hid (HB3.out.trans (hb4.mono HB3.out.size))
       have HLT := Lib.hid hlt4
       clear hV hbV hsV hlt4 hK hb4 hB4))
  obtain ⟨W5, hW5⟩ : ∃ W5, W5 = W4.alloc (.cells #[.int .i64 1, .int .i64 12, .bool true, .slice none 0 0, .slice (some ⟨W3.heap.size, 0, none⟩) 3 3] 33) := ⟨_, rfl⟩
  have hb5 : Below W4.heap.size W4 W5 := by rw [hW5]; exact below_alloc (Below.refl _ _) _
  obtain ⟨v, cs, hK5, hx5, hn9, hn0, hv5, hcs⟩ : ∃ (v : Value) (cs : List (List Value)), KRow W0.heap.size (fun k => k ≠ W4.heap.size) W5 v l cs ∧ W5.heap[W4.heap.size]? = some (.cells #[.int .i64 1, .int .i64 12, .bool true, .slice none 0 0, v] 33 (0, 0)) ∧ some W4.heap.size ≠ v.ownBlock ∧ some w.heap.size ≠ v.ownBlock ∧ (∀ k, v.ownBlock = some k → k < W5.heap.size) ∧ cs.length = 3 := by
    refine ⟨.slice (some ⟨W3.heap.size, 0, none⟩) 3 3, _, by rw [HL0.out]; exact HK4.out.below hb5, by rw [hW5]; exact blk_new _ _, ?_, ?_, ?_, rfl⟩
    · have := HLT.out
      simp [Value.ownBlock]
      omega
    · have := HB3.out.size
      have := HS0.out
      simp [Value.ownBlock]
      omega
    · intro k hk
      have e : W3.heap.size = k := by simpa [Value.ownBlock] using hk
      have := HLT.out
      have := hb5.size
      omega
  have HN9 := Lib.hid hn9
  have HN0 := Lib.hid hn0
  have HV5 := Lib.hid hv5
  have HCS := Lib.hid hcs
  have HZ5 := Lib.hid (blk_below HZ4.out hb5)
  have HC5 := Lib.hid (HB4.out.trans (hb5.mono HB4.out.size))
  have HLT5 : Hid (W4.heap.size < W5.heap.size) := Lib.hid (blk_lt hx5)
  have HL05 : Hid (w.heap.size < W4.heap.size) := Lib.hid (by have := HB3.out.size; have := HLT.out; have := HS0.out; omega)
  have HL35 : Hid (W0.heap.size ≤ W4.heap.size) := Lib.hid (by have := HB3.out.size; have := HLT.out; omega)
  have s4 : W5.cell? ⟨W4.heap.size, 4, none⟩ = some v := blk_cell hx5 4
  have hd5 : Below W5.heap.size W5 W5.drew := (Below.refl _ _).drew
  have HK6 := Lib.hid (hK5.below hd5)
  have HZ6 := Lib.hid (blk_below HZ5.out hd5)
  have HX6 := Lib.hid (blk_below hx5 hd5)
  have HC6 := Lib.hid (HC5.out.trans (hd5.mono HC5.out.size))
  rw [← hW5]
  clear hW5 hb5 hK5 hx5 hn9 hn0 hv5 hcs hd5 HK4 HZ4 HB4 HB3 HZ3 HB2 HZ2 HB1 HZ1 HL1 HL2 HL12 HL13 HL23 HL3 HO1 HO2 HO3 HLT HW0 HL0 HZ0
  go_wp2_with fail
  go_region_law (first
    | ((refine Kd.R_append_step raw5 (w0 := W0) (W := W7) W0.heap.size (by rfl) (.tmp 21) (.tmp 25) 31 33 (.agg #[.int .i64 0, .int .i64 0, .bool false, .slice none 0 0, .slice none 0 0]) 72 (by rfl) Tryd.underlying31 info_sp rfl (show 0 < 5 by decide) (by decide) v cs (cellsP x4 G3 g3 G4 g4) _ (fun k => k ≠ W4.heap.size) (fun _ => False) (by rfl) (by rfl) HM7.out (fun _ h => h.elim) HFR7.out HK7.out.row HC7.out HC7.out.size HLL.out ?_
        intro v1 w1 hR1 hb1 hg1 hat1
        have x0 : w1.cell? ⟨W4.heap.size, 4, none⟩ = some v := blk_cell (blk_grown HX7.out hg1 HN9.out) 4
        have xf : w1.frozen? ⟨W4.heap.size, 4, none⟩ = false := blk_frozen (blk_grown HX7.out hg1 HN9.out) 4
        obtain ⟨Ar, cr, hvr, hlr, hF⟩ := KRow.grow HK7.out HLX.out HLT5.out HV5.out (Nat.le_trans HL35.out (Nat.le_of_lt HLT5.out)) hR1 hg1 hat1 HLN.out (i := 4)
        obtain ⟨nn, hnn⟩ : ∃ nn, nn = (l ++ [x4]).length := ⟨_, rfl⟩
        rw [← hnn] at hvr
        subst hvr
        rw [← hnn] at hF hlr
        have HNN := Lib.hid hnn
        have HX8 := Lib.hid (blk_set (blk_grown HX7.out hg1 HN9.out) 4 (.slice Ar nn cr))
        have HZ8 := Lib.hid (blk_far (blk_grown HZ7.out hg1 HN0.out) (p := ⟨W4.heap.size, 4, none⟩) (Nat.ne_of_lt HL05.out) (.slice Ar nn cr))
        have HB8 := Lib.hid (HBW.out.trans ((hb1.setCell (p := ⟨W4.heap.size, 4, none⟩) HL35.out (.slice Ar nn cr)).mono HBW.out.size))
        have HF8 := Lib.hid hF
        have HLR := Lib.hid hlr
        clear hR1 hb1 hg1 hat1 hF hlr hnn))
    | (go_wp2_with (first
        | (go_at_call 47
           rename_i hq
           clear hq
           with_reducible refine (HO4.out _).mono ?_
           rintro e W6 h6
           obtain ⟨F3, f3, F4, f4, rfl, hl6, hB6⟩ := h6.open
           have t4 : W6.cell? ⟨W4.heap.size, 4, none⟩ = some v := blk_cell (blk_below HX6.out hB6) 4
           have HT6 := Lib.hid (HT4.out F3 f3 F4 f4 W5.heap.size W6 hl6 hB6.size)
           have HKa := Lib.hid (HK6.out.below hB6)
           have HZa := Lib.hid (blk_below HZ6.out hB6)
           have HXa := Lib.hid (blk_below HX6.out hB6)
           have HCa := Lib.hid (HC6.out.trans (hB6.mono HC6.out.size))
           have HSa : Hid (W5.heap.size ≤ W6.heap.size) := Lib.hid hB6.size
           clear h6 hl6 hB6)
        | (go_at_call 51
           rename_i hq
           clear hq
           with_reducible refine HT6.out.mono ?_
           rintro e W7 h7
           obtain ⟨G3, g3, G4, g4, rfl, hl7, hB7⟩ := h7.open
           have u4 : W7.cell? ⟨W4.heap.size, 4, none⟩ = some v := blk_cell (blk_below HXa.out hB7) 4
           have v4 : ∀ o, (W7.alloc o).cell? ⟨W4.heap.size, 4, none⟩ = some v := fun o => blk_cell (blk_alloc (blk_below HXa.out hB7) o) 4
           have HK7 := Lib.hid (HKa.out.below hB7)
           have HZ7 := Lib.hid (blk_below HZa.out hB7)
           have HX7 := Lib.hid (blk_below HXa.out hB7)
           have HC7 := Lib.hid (HCa.out.trans (hB7.mono HCa.out.size))
           have HS7 : Hid (W5.heap.size ≤ W7.heap.size) := Lib.hid (Nat.le_trans HSa.out hB7.size)
           have HLX := Lib.hid hl7
           have HM7 : Hid (raw5.M W7 W0.heap.size (fun _ => False) (cellsP x4 G3 g3 G4 g4) (cellsP x4 G3 g3 G4 g4)) := Lib.hid (raw5_mk x4 G3 g3 G4 g4 _ _ _)
           have HFR7 : Hid (∀ k, W7.heap.size ≤ k → k ≠ W4.heap.size) := Lib.hid (fun k hk => by have := HLT5.out; have := HS7.out; omega)
           have HLL : Hid ((cs.length + 1) * 72 ≤ 140737488355328) := Lib.hid (small4 cs HCS.out)
           clear h7 hl7 hB7))))
  all_goals (
    have k0 := blk_cell HZ8.out 0
    have k1 := blk_cell HZ8.out 1
    have k2 := blk_cell HZ8.out 2
    have k3 := blk_cell HZ8.out 3
    have k4 := blk_cell HZ8.out 4
    have kf0 := blk_frozen HZ8.out 0
    have kf1 := blk_frozen HZ8.out 1
    have kf2 := blk_frozen HZ8.out 2
    have kf3 := blk_frozen HZ8.out 3
    have kf4 := blk_frozen HZ8.out 4
    have q0 := blk_cell HX8.out 0
    have q1 := blk_cell HX8.out 1
    have q2 := blk_cell HX8.out 2
    have q3 := blk_cell HX8.out 3
    have q4 := blk_cell HX8.out 4
    go_wp2
    have hnn := HNN.out
    subst hnn
    obtain ⟨h5, hend⟩ := nw_end (b := w.heap.size) (B := W0.heap.size) (n := w.heap.size) (x := tOp 12 (l ++ [x4])) HB8.out (Nat.le_refl _) (fun k hk => by have := HS0.out; omega) (by have := HS0.out; omega) HZ8.out (A5 := none) (c5 := 0) (Nat.le_refl _) (Kd.F_nil _ _ _) (A6 := Ar) (c6 := cr) HLR.out (Kd.F_mono HF8.out (fun k hk => hk.1)) rfl
    try simp only [Exit.inBlock, Exit.then]
    exact bodyPost_ret (results_c rfl _ _ _ _ _ _ _ rfl h5 Tryd.underlying33 rfl size33) rfl hend)
theorem sRename_nw (dn rd : ByteArray) (old : Bool) (sp : ByteArray) (w : World) (hdn : dn.size ≤ 140737488355328) (hrd : rd.size ≤ 140737488355328) (hsp : sp.size ≤ 140737488355328) :
    Calls Tryd.prog 16 #[.string dn, .string rd, .bool old, .string sp] w (Nw w.heap.size w (tOp 12 (lRename dn rd old sp))) := by
  cases hem : sp.toList.isEmpty with
  | true => exact sRenameN_nw dn rd old sp w hdn hrd hsp hem
  | false => exact sRenameS_nw dn rd old sp w hdn hrd hsp hem
end Go.Proofs.YtbmcpjkhnhbjdaaDoor.Ber
