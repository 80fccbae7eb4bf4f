/- spec.Compare leaves the packet of RFC 4511. Strings are at most as long as Go's own limit. · (*CompareRequest).appendTo: the envelope has the request as a child more. · impl.Compare: the packet of a request to compare, as data. · The law FnCompareRequest walked: whatever texts, it answers true. -/
import Derived.Test.YtbmcpjkhnhbjdaaDoorSpecB
import Derived.Test.YtbmcpjkhnhbjdaaDoorEncStr
import Derived.Test.YtbmcpjkhnhbjdaaDoorOper
import Derived.Test.YtbmcpjkhnhbjdaaDoorSame
import Derived.StillTailTactics
namespace Go.Proofs.YtbmcpjkhnhbjdaaDoor.Ber
open Go.RowKit Go.Proofs.YtbmcpjkhnhbjdaaDoorW.PrintWords Go.Proofs.YtbmcpjkhnhbjdaaDoor.PFnEncode Go.Proofs.YtbmcpjkhnhbjdaaDoor.Buf Go.Proofs.YtbmcpjkhnhbjdaaDoor.Pk Go.Proofs.YtbmcpjkhnhbjdaaDoor.Within Go.Proofs.YtbmcpjkhnhbjdaaDoor.Num
set_option linter.unusedVariables false
set_option linter.unusedSimpArgs false

set_option maxHeartbeats 1600000 in
set_option maxRecDepth 100000 in
theorem sCompare_nw (a b c : ByteArray) (w : World) (ha : a.size ≤ 140737488355328) (hb : b.size ≤ 140737488355328) (hc : c.size ≤ 140737488355328) :
    Calls Tryd.prog 14 #[.string a, .string b, .string c] w (Nw w.heap.size w (tOp 14 [tO a, tL [tO b, tO c]])) := by
  have HO1 := Lib.hid (fun w => octets_nw a w ha)
  have HO2 := Lib.hid (fun w => octets_nw b w hb)
  have HO3 := Lib.hid (fun w => octets_nw c w hc)
  change Hid (∀ w, Calls _ _ _ w (Nw w.heap.size w (tO a))) at HO1
  change Hid (∀ w, Calls _ _ _ w (Nw w.heap.size w (tO b))) at HO2
  change Hid (∀ w, Calls _ _ _ w (Nw w.heap.size w (tO c))) at HO3
  obtain ⟨x1, hx1⟩ : ∃ x, x = tO a := ⟨_, rfl⟩
  obtain ⟨x2, hx2⟩ : ∃ x, x = tO b := ⟨_, rfl⟩
  obtain ⟨x3, hx3⟩ : ∃ x, x = tO c := ⟨_, rfl⟩
  rw [← hx1] at HO1 ⊢
  rw [← hx2] at HO2 ⊢
  rw [← hx3] at HO3 ⊢
  have HL : Hid (∀ (A : Option Addr) (cc : Nat) (W : World), Kd.F k33 W (fun k => w.heap.size + 1 ≤ k) A [x2, x3].length [x2, x3] → 2 ≤ cc → w.heap.size + 1 ≤ W.heap.size → Calls Tryd.prog 48 #[.slice A 2 cc] W (Nw (w.heap.size + 1) W (tL [x2, x3]))) :=
    Lib.hid (fun A cc W h1 h2 h3 => list_nw [x2, x3] A cc W h1 h2 h3)
  obtain ⟨y, hy⟩ : ∃ y, y = tL [x2, x3] := ⟨_, rfl⟩
  rw [← hy] at HL ⊢
  have HP : Hid (∀ (A : Option Addr) (cc : Nat) (W : World), Kd.F k33 W (fun k => w.heap.size + 1 ≤ k) A [x1, y].length [x1, y] → 2 ≤ cc → w.heap.size + 1 ≤ W.heap.size → Calls Tryd.prog 46 #[.int .i64 14, .slice A 2 cc] W (Nw (w.heap.size + 1) W (tOp 14 [x1, y]))) :=
    Lib.hid (fun A cc W h1 h2 h3 => operation_nw 14 [x1, y] A cc W h1 h2 h3)
  obtain ⟨z, hz⟩ : ∃ z, z = tOp 14 [x1, y] := ⟨_, rfl⟩
  rw [← hz] at HP ⊢
  clear hx1 hx2 hx3 hy hz ha hb hc
  go_enter Tryd.func14, Tryd.ntmps14
  go_wp2_with (first
    | (go_at_call 47
       first
       | (obtain ⟨W0, hW0⟩ : ∃ W0, W0 = w.alloc (.cells #[.int .i64 0, .int .i64 0, .bool false, .slice none 0 0, .slice none 0 0] 33) := ⟨_, rfl⟩
          rw [← hW0]
          have hb0 : Below w.heap.size w W0 := by rw [hW0]; exact below_alloc (Below.refl _ _) _
          have hz0 : W0.heap[w.heap.size]? = some (.cells #[.int .i64 0, .int .i64 0, .bool false, .slice none 0 0, .slice none 0 0] 33 (0, 0)) := by rw [hW0]; exact blk_new _ _
          have hs0 : W0.heap.size = w.heap.size + 1 := by rw [hW0]; simp
          clear hW0
          with_reducible refine (HO1.out W0).mono ?_
          rintro e W1 h1
          obtain ⟨A3, c3, A4, c4, rfl, hl1, hB1⟩ := h1.open
          rw [hs0] at hl1
          have HL1 := Lib.hid hl1
          have HZ1 := Lib.hid (blk_below hz0 hB1)
          have HB1 := Lib.hid (hb0.trans (hB1.mono hb0.size))
          have HS1 : Hid (w.heap.size + 1 ≤ W1.heap.size) := Lib.hid (by have := hB1.size; omega)
          clear h1 hl1 hz0 hB1 hb0 hs0)
       | (with_reducible refine (HO2.out W1).mono ?_
          rintro e W2 h2
          obtain ⟨B3, d3, B4, d4, rfl, hl2, hB2⟩ := h2.open
          have HL2 := Lib.hid (hl2.low HS1.out)
          have HL12 := Lib.hid (HL1.out.below hB2)
          have HZ2 := Lib.hid (blk_below HZ1.out hB2)
          have HB2 := Lib.hid (HB1.out.trans (hB2.mono HB1.out.size))
          have HS2 : Hid (w.heap.size + 1 ≤ W2.heap.size) := Lib.hid (by have := hB2.size; have := HS1.out; omega)
          clear h2 hl2 hB2 HL1 HZ1 HB1)
       | (with_reducible refine (HO3.out W2).mono ?_
          rintro e W3 h3
          obtain ⟨D3, e3, D4, e4, rfl, hl3, hB3⟩ := h3.open
          have HL3 := Lib.hid (hl3.low HS2.out)
          have HL13 := Lib.hid (HL12.out.below hB3)
          have HL23 := Lib.hid (HL2.out.below hB3)
          have HZ3 := Lib.hid (blk_below HZ2.out hB3)
          have HB3 := Lib.hid (HB2.out.trans (hB3.mono HB2.out.size))
          have HS3 : Hid (w.heap.size + 1 ≤ W3.heap.size) := Lib.hid (by have := hB3.size; have := HS2.out; omega)
          clear h3 hl3 hB3 HL12 HL2 HZ2 HB2))
    | (go_at_call 48
       obtain ⟨W4, hW4⟩ : ∃ W4, W4 = W3.alloc (.cells #[.int .i64 x2.f0, .int .i64 x2.f1, .bool x2.f2, .slice B3 x2.f3.length d3, .slice B4 x2.f4.length d4, .int .i64 x3.f0, .int .i64 x3.f1, .bool x3.f2, .slice D3 x3.f3.length e3, .slice D4 x3.f4.length e4] 33) := ⟨_, rfl⟩
       rw [← hW4]
       have hb4 : Below W3.heap.size W3 W4 := by rw [hW4]; exact below_alloc (Below.refl _ _) _
       have hz4 : W4.heap[W3.heap.size]? = some (.cells #[.int .i64 x2.f0, .int .i64 x2.f1, .bool x2.f2, .slice B3 x2.f3.length d3, .slice B4 x2.f4.length d4, .int .i64 x3.f0, .int .i64 x3.f1, .bool x3.f2, .slice D3 x3.f3.length e3, .slice D4 x3.f4.length e4] 33 (0, 0)) := by rw [hW4]; exact blk_new _ _
       clear hW4
       with_reducible refine (HL.out _ _ W4 (F2 hz4 HS3.out (HL23.out.below hb4) (HL3.out.below hb4)) (Nat.le_refl _) (Nat.le_trans HS3.out hb4.size)).mono ?_
       rintro e W5 h5
       obtain ⟨E3, f3, E4, f4, rfl, hl5, hB5⟩ := h5.open
       have hb5 := hb4.trans (hB5.mono hb4.size)
       have HL5 := Lib.hid hl5
       have HL15 := Lib.hid (HL13.out.below hb5)
       have HZ5 := Lib.hid (blk_below HZ3.out hb5)
       have HB5 := Lib.hid (HB3.out.trans (hb5.mono HB3.out.size))
       have HS5 : Hid (w.heap.size + 1 ≤ W5.heap.size) := Lib.hid (by have := hb5.size; have := HS3.out; omega)
       clear h5 hl5 hB5 hb5 hb4 hz4 HL13 HL23 HL3 HZ3 HB3)
    | (go_at_call 46
       obtain ⟨W6, hW6⟩ : ∃ W6, W6 = W5.alloc (.cells #[.int .i64 x1.f0, .int .i64 x1.f1, .bool x1.f2, .slice A3 x1.f3.length c3, .slice A4 x1.f4.length c4, .int .i64 y.f0, .int .i64 y.f1, .bool y.f2, .slice E3 y.f3.length f3, .slice E4 y.f4.length f4] 33) := ⟨_, rfl⟩
       rw [← hW6]
       have hb6 : Below W5.heap.size W5 W6 := by rw [hW6]; exact below_alloc (Below.refl _ _) _
       have hz6 : W6.heap[W5.heap.size]? = some (.cells #[.int .i64 x1.f0, .int .i64 x1.f1, .bool x1.f2, .slice A3 x1.f3.length c3, .slice A4 x1.f4.length c4, .int .i64 y.f0, .int .i64 y.f1, .bool y.f2, .slice E3 y.f3.length f3, .slice E4 y.f4.length f4] 33 (0, 0)) := by rw [hW6]; exact blk_new _ _
       clear hW6
       with_reducible refine (HP.out _ _ W6 (F2 hz6 HS5.out (HL15.out.below hb6) (HL5.out.below hb6)) (Nat.le_refl _) (Nat.le_trans HS5.out hb6.size)).mono ?_
       rintro e W7 h7
       obtain ⟨G3, g3, G4, g4, rfl, hl7, hB7⟩ := h7.open
       have hb7 := hb6.trans (hB7.mono hb6.size)
       have HL7 := Lib.hid hl7
       have HZ7 := Lib.hid (blk_below HZ5.out hb7)
       have HB7 := Lib.hid (HB5.out.trans (hb7.mono HB5.out.size))
       have k0 : W7.cell? ⟨w.heap.size, 0, none⟩ = some (.int .i64 0) := blk_cell HZ7.out 0
       have k1 : W7.cell? ⟨w.heap.size, 1, none⟩ = some (.int .i64 0) := blk_cell HZ7.out 1
       have k2 : W7.cell? ⟨w.heap.size, 2, none⟩ = some (.bool false) := blk_cell HZ7.out 2
       have k3 : W7.cell? ⟨w.heap.size, 3, none⟩ = some (.slice none 0 0) := blk_cell HZ7.out 3
       have k4 : W7.cell? ⟨w.heap.size, 4, none⟩ = some (.slice none 0 0) := blk_cell HZ7.out 4
       have kf0 := blk_frozen HZ7.out 0
       have kf1 := blk_frozen HZ7.out 1
       have kf2 := blk_frozen HZ7.out 2
       have kf3 := blk_frozen HZ7.out 3
       have kf4 := blk_frozen HZ7.out 4
       clear h7 hl7 hB7 hb7 hb6 hz6 HL15 HL5 HZ5 HB5))
  obtain ⟨h5, hend⟩ := nw_end (b := w.heap.size) (B := w.heap.size + 1) (n := w.heap.size) (x := z) HB7.out (Nat.le_refl _) (fun k hk => by omega) (Nat.le_succ _) HZ7.out HL7.out.1 HL7.out.2.1 HL7.out.2.2.1 HL7.out.2.2.2 rfl
  try simp only [Exit.inBlock, Exit.then]
  exact bodyPost_ret (results_c rfl _ _ _ _ _ _ _ rfl h5 Tryd.underlying33 rfl size33) rfl hend
end Go.Proofs.YtbmcpjkhnhbjdaaDoor.Ber

namespace Go.Proofs.YtbmcpjkhnhbjdaaDoor.Ber
open Go.RowKit Go.Proofs.YtbmcpjkhnhbjdaaDoorW.PrintWords Go.Proofs.YtbmcpjkhnhbjdaaDoor.Buf Go.Proofs.YtbmcpjkhnhbjdaaDoor.Pk
set_option linter.unusedVariables false
set_option linter.unusedSimpArgs false

/-- the request as a packet -/
def pCompare (dn attr val : ByteArray) : Pk :=
  addK (addK (bare 64 32 14 .nilIface (txt [67, 111, 109, 112, 97, 114, 101, 32, 82, 101, 113, 117, 101, 115, 116])) (prim 0 0 4 (strV dn) (bytesOf dn) (txt [68, 78])))
    (addK (addK (bare 0 32 16 .nilIface (txt [65, 116, 116, 114, 105, 98, 117, 116, 101, 86, 97, 108, 117, 101, 65, 115, 115, 101, 114, 116, 105, 111, 110])) (prim 0 0 4 (strV attr) (bytesOf attr) (txt [65, 116, 116, 114, 105, 98, 117, 116, 101, 68, 101, 115, 99])))
      (prim 0 0 4 (strV val) (bytesOf val) (txt [65, 115, 115, 101, 114, 116, 105, 111, 110, 86, 97, 108, 117, 101])))

set_option maxHeartbeats 3200000 in
set_option maxRecDepth 100000 in
theorem appendTo_cmp (dn attr val : ByteArray) (hd : dn.size ≤ 1000000) (ha : attr.size ≤ 1000000) (hv : val.size ≤ 1000000) (r base q n : Nat) (E : Pk) (w : World) (hE : At w w base q E) (tE : Top E n) (hn : n < 100000000000)
    (hr : w.heap[r]? = some (.cells #[.string dn, .string attr, .string val] 89 (0, 0))) :
    Calls Tryd.prog 134 #[.pointer (some ⟨r, 0, none⟩), .pointer (some ⟨q, 0, none⟩)] w fun e w' => e = .returned .nilIface ∧ At w' w' base q (addK E (pCompare dn attr val)) ∧ Below base w w' := by
  have HE := Lib.hid hE
  have HR := Lib.hid hr
  have TE := Lib.hid tE
  clear hE tE hr
  go_enter Tryd.func134, Tryd.ntmps134
  have t1 : Top (prim 0 0 4 (strV dn) (bytesOf dn) (txt [68, 78])) 1000000 := prim_top _ _ _ _ _ _ (by decide) (by decide) (by decide) (Or.inl rfl) (by decide) (by decide) (by rw [bytesOf_length]; exact hd)
  have t2 : Top (prim 0 0 4 (strV attr) (bytesOf attr) (txt [65, 116, 116, 114, 105, 98, 117, 116, 101, 68, 101, 115, 99])) 1000000 := prim_top _ _ _ _ _ _ (by decide) (by decide) (by decide) (Or.inl rfl) (by decide) (by decide) (by rw [bytesOf_length]; exact ha)
  have t3 : Top (prim 0 0 4 (strV val) (bytesOf val) (txt [65, 115, 115, 101, 114, 116, 105, 111, 110, 86, 97, 108, 117, 101])) 1000000 := prim_top _ _ _ _ _ _ (by decide) (by decide) (by decide) (Or.inl rfl) (by decide) (by decide) (by rw [bytesOf_length]; exact hv)
  have s1 : Top (bare 64 32 14 .nilIface (txt [67, 111, 109, 112, 97, 114, 101, 32, 82, 101, 113, 117, 101, 115, 116])) 0 := bare_top _ _ _ _ _ (by decide) (by decide) (by decide) (Or.inr rfl) (by decide) (by decide)
  have s2 := addK_top s1 t1 (by decide)
  have s3 : Top (bare 0 32 16 .nilIface (txt [65, 116, 116, 114, 105, 98, 117, 116, 101, 86, 97, 108, 117, 101, 65, 115, 115, 101, 114, 116, 105, 111, 110])) 0 := bare_top _ _ _ _ _ (by decide) (by decide) (by decide) (Or.inr rfl) (by decide) (by decide)
  have s4 := addK_top s3 t2 (by decide)
  have s5 := addK_top s4 t3 (by decide)
  have s6 := addK_top s2 s5 (by decide)
  have HT := Lib.hid (And.intro t1 (And.intro t2 (And.intro t3 (And.intro s1 (And.intro s2 (And.intro s3 (And.intro s4 (And.intro s5 s6))))))))
  have HS : Hid (dn.size ≤ 140737488355328 ∧ attr.size ≤ 140737488355328 ∧ val.size ≤ 140737488355328) := Lib.hid ⟨by omega, by omega, by omega⟩
  clear t1 t2 t3 s1 s2 s3 s4 s5 s6 hd ha hv
  go_wp2_with (first
    | (go_at_call 87
       first
       | (with_reducible refine (encode_at 64 32 14 _ w).mono ?_
          rintro e W1 ⟨q1, rfl, hA1, hB1⟩
          have HA1 := Lib.hid hA1
          have HB1 := Lib.hid hB1
          have c0 : W1.cell? ⟨r, 0, none⟩ = some (.string dn) := blk_cell (blk_below HR.out hB1) 0
          clear hA1 hB1)
       | (with_reducible refine (encode_at 0 32 16 _ W3).mono ?_
          rintro e W4 ⟨q3, rfl, hA4, hB4⟩
          have HA34 := Lib.hid (HA3.out.on hB4)
          have HA4 := Lib.hid hA4
          have HB4 := Lib.hid (HB3.out.trans (hB4.mono HB3.out.size))
          have c1 : W4.cell? ⟨r, 1, none⟩ = some (.string attr) := blk_cell (blk_below HR.out HB4.out) 1
          clear hA4 hB4 HA3 HB3)
       | (with_reducible refine (encstr_at 0 val _ W6 HS.out.2.2).mono ?_
          rintro e W7 ⟨q5, rfl, hA7, hB7⟩
          have HC7 := Lib.hid (app_at (HA6.out.on hB7) hA7 (Nat.le_refl _) HT.out.2.2.2.2.2.2.1 HT.out.2.2.1 (by decide) (by decide))
          have HA37 := Lib.hid (HA36.out.on hB7)
          have HB7 := Lib.hid (HB6.out.trans (hB7.mono HB6.out.size))
          clear hA7 hB7 HA36 HB6 HA6 c2))
    | (go_at_call 62
       first
       | (with_reducible refine (string_at 0 0 4 dn _ W1 HS.out.1).mono ?_
          rintro e W2 ⟨q2, rfl, hA2, hB2⟩
          have HC2 := Lib.hid (app_at (HA1.out.on hB2) hA2 (Nat.le_refl _) HT.out.2.2.2.1 HT.out.1 (by decide) (by decide))
          have HB2 := Lib.hid (HB1.out.trans (hB2.mono HB1.out.size))
          clear hA2 hB2 HA1 HB1 c0)
       | (with_reducible refine (string_at 0 0 4 attr _ W4 HS.out.2.1).mono ?_
          rintro e W5 ⟨q4, rfl, hA5, hB5⟩
          have HC5 := Lib.hid (app_at (HA4.out.on hB5) hA5 (Nat.le_refl _) HT.out.2.2.2.2.2.1 HT.out.2.1 (by decide) (by decide))
          have HA35 := Lib.hid (HA34.out.on hB5)
          have HB5 := Lib.hid (HB4.out.trans (hB5.mono HB4.out.size))
          clear hA5 hB5 HA4 HB4 HA34 c1))
    | (go_at_call 93
       first
       | (with_reducible refine HC2.out.mono ?_
          rintro e W3 ⟨⟨u, rfl⟩, hA3, hB3⟩
          have HA3 := Lib.hid hA3
          have HB3 := Lib.hid (HB2.out.trans hB3)
          clear hA3 hB3 HC2 HB2)
       | (with_reducible refine HC5.out.mono ?_
          rintro e W6 ⟨⟨u2, rfl⟩, hA6, hB6⟩
          have HA36 := Lib.hid (HA35.out.go hB6 (Nat.le_refl _))
          have HA6 := Lib.hid hA6
          have HB6 := Lib.hid (HB5.out.trans (hB6.mono HA35.out.le))
          have c2 : W6.cell? ⟨r, 2, none⟩ = some (.string val) := blk_cell (blk_below HR.out HB6.out) 2
          clear hA6 hB6 HC5 HB5 HA35)
       | (with_reducible refine HC7.out.mono ?_
          rintro e W8 ⟨⟨u3, rfl⟩, hA8, hB8⟩
          have HC8 := Lib.hid (app_at (HA37.out.go hB8 (Nat.le_refl _)) hA8 (Nat.le_refl _) HT.out.2.2.2.2.1 HT.out.2.2.2.2.2.2.2.1 (by decide) (by decide))
          have HB8 := Lib.hid (HB7.out.trans (hB8.mono HA37.out.le))
          clear hA8 hB8 HC7 HB7 HA37)
       | (with_reducible refine HC8.out.mono ?_
          rintro e W9 ⟨⟨u4, rfl⟩, hA9, hB9⟩
          have hb9 := HB8.out.trans hB9
          have HC9 := Lib.hid (app_at (HE.out.on hb9) hA9 (Nat.le_refl _) TE.out HT.out.2.2.2.2.2.2.2.2 (by omega) (by decide))
          have HB9 := Lib.hid hb9
          clear hA9 hB9 hb9 HC8 HB8)
       | (with_reducible refine HC9.out.mono ?_
          rintro e W10 ⟨⟨u5, rfl⟩, hA10, hB10⟩
          have HA10 := Lib.hid hA10
          have HB10 := Lib.hid ((HB9.out.mono HE.out.le).trans hB10)
          clear hA10 hB10 HC9 HB9)))
  go_ret
  exact ⟨rfl, HA10.out, HB10.out⟩
end Go.Proofs.YtbmcpjkhnhbjdaaDoor.Ber

namespace Go.Proofs.YtbmcpjkhnhbjdaaDoor.Ber
open Go.RowKit Go.Proofs.YtbmcpjkhnhbjdaaDoorW.PrintWords Go.Proofs.YtbmcpjkhnhbjdaaDoor.Buf Go.Proofs.YtbmcpjkhnhbjdaaDoor.Pk Go.Proofs.YtbmcpjkhnhbjdaaDoor.Num Go.Proofs.YtbmcpjkhnhbjdaaDoor.PFnEncode
set_option linter.unusedVariables false
set_option linter.unusedSimpArgs false

theorem cmp_ta (r : Nat) : ∀ w : World, (Instr.typeAssert (.iface 87 (.pointer (some ⟨r, 0, none⟩))) 20 200 true).run Tryd.prog w = .ok (.tuple #[.iface 87 (.pointer (some ⟨r, 0, none⟩)), .bool true]) w := fun _ => by kernel_rfl
theorem cmp_m (r : Nat) : ∀ w : World, (method 366 87 (.pointer (some ⟨r, 0, none⟩)) "goldap/pub/goldap.appendTo").run Tryd.prog w = .ok (134, .pointer (some ⟨r, 0, none⟩)) w := fun _ => by kernel_rfl
theorem cmp_cf : ∀ (args : Array Value) (w : World), (callFunc 134 args).run Tryd.prog w = .ok (.enter 134 args) w := fun _ _ => by kernel_rfl
theorem pCompare_fine (dn attr val : ByteArray) (hd : dn.size ≤ 1000000) (ha : attr.size ≤ 1000000) (hv : val.size ≤ 1000000) : Fine (pCompare dn attr val) 4000000 :=
  (fine_add (fine_add (fine_bare _ _ _ _ _ (by decide) (by decide) (by decide) (Or.inr rfl) (by decide) (by decide)) (fine_str _ _ _ _ _ (by decide) (by decide) (by decide) (Or.inl rfl) (by decide) (by decide) hd) (by decide))
    (fine_add (fine_add (fine_bare _ _ _ _ _ (by decide) (by decide) (by decide) (Or.inr rfl) (by decide) (by decide)) (fine_str _ _ _ _ _ (by decide) (by decide) (by decide) (Or.inl rfl) (by decide) (by decide) ha) (by decide)) (fine_str _ _ _ _ _ (by decide) (by decide) (by decide) (Or.inl rfl) (by decide) (by decide) hv) (by decide)) (by decide)).le (by decide)

/-- .. as data -/
def dCompare (dn attr val : ByteArray) : S27 := ⟨1, 14, true, [], [⟨0, 4, false, bytesOf dn, []⟩, ⟨0, 16, true, [], [⟨0, 4, false, bytesOf attr, []⟩, ⟨0, 4, false, bytesOf val, []⟩]⟩]⟩
theorem tr_compare (dn attr val : ByteArray) : trOf (pCompare dn attr val) = dCompare dn attr val := by
  unfold pCompare dCompare addK bare prim
  simp [trOf, trL]

set_option maxHeartbeats 1600000 in
set_option maxRecDepth 100000 in
theorem compare_any (dn attr val : ByteArray) (w : World) (hd : dn.size ≤ 1000000) (ha : attr.size ≤ 1000000) (hv : val.size ≤ 1000000) :
    Calls Tryd.prog 12 #[.string dn, .string attr, .string val] w (OpRes w (dCompare dn attr val)) := by
  obtain ⟨W0, hW0⟩ : ∃ W0, W0 = (w.alloc (.cells #[.int .i64 0, .int .i64 0, .bool false, .slice none 0 0, .slice none 0 0] 27)).alloc (.cells #[.string dn, .string attr, .string val] 89) := ⟨_, rfl⟩
  have hb0 : Below w.heap.size w W0 := by rw [hW0]; exact below_alloc (below_alloc (Below.refl _ _) _) _
  have hs0 : W0.heap.size = w.heap.size + 1 + 1 := by rw [hW0]; simp
  have hz0 : W0.heap[w.heap.size]? = some (.cells #[.int .i64 0, .int .i64 0, .bool false, .slice none 0 0, .slice none 0 0] 27 (0, 0)) := by rw [hW0]; exact blk_alloc (blk_new _ _) _
  have hr0 : W0.heap[w.heap.size + 1]? = some (.cells #[.string dn, .string attr, .string val] 89 (0, 0)) := by
    have := blk_new (w.alloc (.cells #[.int .i64 0, .int .i64 0, .bool false, .slice none 0 0, .slice none 0 0] 27)) (.cells #[.string dn, .string attr, .string val] 89)
    have e : (w.alloc (.cells #[.int .i64 0, .int .i64 0, .bool false, .slice none 0 0, .slice none 0 0] 27)).heap.size = w.heap.size + 1 := by simp
    rw [e, ← hW0] at this
    exact this
  have HO := Lib.hid (operation_any 87 134 (.pointer (some ⟨w.heap.size + 1, 0, none⟩)) (pCompare dn attr val) W0 (cmp_ta _) (cmp_m _) cmp_cf
    (fun W hW q E n W' hE tE hn hb => appendTo_cmp dn attr val hd ha hv (w.heap.size + 1) W.heap.size q n E W' hE tE hn (blk_below (blk_below hr0 hW) hb))
    ((pCompare_fine dn attr val hd ha hv).ok (by decide)))
  rw [tr_compare] at HO
  obtain ⟨y, hy⟩ : ∃ y, y = dCompare dn attr val := ⟨_, rfl⟩
  rw [← hy] at HO ⊢
  have HB0 := Lib.hid hb0
  have HS0 := Lib.hid hs0
  have HZ0 := Lib.hid hz0
  have HW0 := Lib.hid hW0
  clear hy hb0 hs0 hz0 hr0 hW0 hd ha hv
  go_enter Tryd.func12, Tryd.ntmps12
  go_wp2_with (go_at_call 43
               rw [← HW0.out]
               with_reducible refine HO.out.mono ?_
               rintro e W1 ⟨A3, c3, A4, c4, rfl, l3, h3, l4, h4, hB1⟩
               have HZ1 := Lib.hid (blk_below HZ0.out hB1)
               have HB1 := Lib.hid (HB0.out.trans (hB1.mono HB0.out.size))
               have HF := Lib.hid (And.intro l3 (And.intro h3 (And.intro l4 h4)))
               have k0 : W1.cell? ⟨w.heap.size, 0, none⟩ = some (.int .i64 0) := blk_cell HZ1.out 0
               have k1 : W1.cell? ⟨w.heap.size, 1, none⟩ = some (.int .i64 0) := blk_cell HZ1.out 1
               have k2 : W1.cell? ⟨w.heap.size, 2, none⟩ = some (.bool false) := blk_cell HZ1.out 2
               have k3 : W1.cell? ⟨w.heap.size, 3, none⟩ = some (.slice none 0 0) := blk_cell HZ1.out 3
               have k4 : W1.cell? ⟨w.heap.size, 4, none⟩ = some (.slice none 0 0) := blk_cell HZ1.out 4
               have kf0 := blk_frozen HZ1.out 0
               have kf1 := blk_frozen HZ1.out 1
               have kf2 := blk_frozen HZ1.out 2
               have kf3 := blk_frozen HZ1.out 3
               have kf4 := blk_frozen HZ1.out 4
               clear l3 h3 l4 h4 hB1 HO)
  try simp only [Exit.inBlock, Exit.then]
  obtain ⟨h5, hend⟩ := req_end HB1.out (Nat.le_refl _) HB0.out.size (fun k hk => by have := HS0.out; omega) HZ1.out HF.out.1 HF.out.2.1 HF.out.2.2.1 HF.out.2.2.2 rfl
  exact bodyPost_ret (results_ct (p := 6) (u := 7) rfl _ _ _ _ _ _ _ rfl h5 Tryd.underlying27 rfl size_ip) rfl hend
end Go.Proofs.YtbmcpjkhnhbjdaaDoor.Ber

namespace Go.Proofs.YtbmcpjkhnhbjdaaDoor.Ber
open Go.RowKit Go.Proofs.YtbmcpjkhnhbjdaaDoorW.PrintWords Go.Proofs.YtbmcpjkhnhbjdaaDoor.PFnEncode Go.Proofs.YtbmcpjkhnhbjdaaDoor.Tree Go.Proofs.YtbmcpjkhnhbjdaaDoor.Buf Go.Proofs.YtbmcpjkhnhbjdaaDoor.Pk Go.Proofs.YtbmcpjkhnhbjdaaDoor.Num Go.Proofs.YtbmcpjkhnhbjdaaDoor.Within
set_option linter.unusedVariables false
set_option linter.unusedSimpArgs false

theorem mir_compare (a b c : ByteArray) : mir (dCompare a b c) = tOp 14 [tO a, tL [tO b, tO c]] := by
  unfold dCompare tOp tO tL
  simp [mir, mirL]
theorem dp_compare (a b c : ByteArray) : tdp (mir (dCompare a b c)) ≤ 60 := by
  rw [mir_compare]
  unfold tOp tO tL
  simp [tdp, tdpL]
theorem sz_compare (a b c : ByteArray) (ha : a.size ≤ 200) (hb : b.size ≤ 200) (hc : c.size ≤ 200) : tsize (mir (dCompare a b c)) ≤ 200000 := by
  rw [mir_compare]
  unfold tOp tO tL
  simp only [tsize, tsizeL, bytesOf_length, List.length_nil]
  omega

set_option maxHeartbeats 3200000 in
set_option maxRecDepth 100000 in
theorem fnCompareRequest_any (a b c : ByteArray) (w : World) :
    Calls Tryd.prog 3 #[.string a, .string b, .string c] w fun e w' => e = .returned (.bool true) ∧ Below w.heap.size w w' := by
  have HB := Lib.hid (Below.refl w.heap.size w)
  by_cases h1 : 2147483647 < a.size
  · have e1 : decide (2147483647 < (a.size : Int)) = true := decide_eq_true (by omega)
    have e2 : decide (2147483647 < a.size) = true := decide_eq_true h1
    clear h1
    go_enter Tryd.func3, Tryd.ntmps3
    go_wp2
    go_ret
    exact ⟨rfl, HB.out⟩
  have e1 : decide (2147483647 < (a.size : Int)) = false := decide_eq_false (by omega)
  have e2 : decide (2147483647 < a.size) = false := decide_eq_false h1
  by_cases h2 : 2147483647 < b.size
  · have f1 : decide (2147483647 < (b.size : Int)) = true := decide_eq_true (by omega)
    have f2 : decide (2147483647 < b.size) = true := decide_eq_true h2
    clear h1 h2
    go_enter Tryd.func3, Tryd.ntmps3
    go_wp2
    go_ret
    exact ⟨rfl, HB.out⟩
  have f1 : decide (2147483647 < (b.size : Int)) = false := decide_eq_false (by omega)
  have f2 : decide (2147483647 < b.size) = false := decide_eq_false h2
  by_cases h3 : 2147483647 < c.size
  · have g1 : decide (2147483647 < (c.size : Int)) = true := decide_eq_true (by omega)
    have g2 : decide (2147483647 < c.size) = true := decide_eq_true h3
    clear h1 h2 h3
    go_enter Tryd.func3, Tryd.ntmps3
    go_wp2
    go_ret
    exact ⟨rfl, HB.out⟩
  have g1 : decide (2147483647 < (c.size : Int)) = false := decide_eq_false (by omega)
  have g2 : decide (2147483647 < c.size) = false := decide_eq_false h3
  clear h1 h2 h3
  have HSH : Hid (∀ W, W = w.alloc (.cells #[.string a, .string b, .string c] 9) → Calls Tryd.prog 10 #[.slice (some ⟨w.heap.size, 0, none⟩) 3 3] W fun e w' => e = .returned (.bool (shortT [a, b, c])) ∧ Below w.heap.size w w') := Lib.hid (fun W hW => by
    have hb : W.heap[w.heap.size]? = some (.cells #[.string a, .string b, .string c] 9 (0, 0)) := by rw [hW]; exact blk_new _ _
    have hB : Below w.heap.size w W := by rw [hW]; exact below_alloc (Below.refl _ _) _
    refine (short_any [a, b, c] (some ⟨w.heap.size, 0, none⟩) 3 W (strs_block hb rfl (by simp)) (Nat.le_refl _) (by simp)).mono ?_
    rintro e w' ⟨he, hb'⟩
    exact ⟨he, hB.trans (hb'.mono hB.size)⟩)
  cases hsh : shortT [a, b, c] with
  | false =>
    rw [hsh] at HSH
    clear hsh
    go_enter Tryd.func3, Tryd.ntmps3
    go_wp2_with (first
      | (go_at_call 10
         refine (HSH.out _ rfl).mono ?_
         rintro e W1 ⟨rfl, hB1⟩
         have HB1 := Lib.hid hB1
         clear hB1)
      | (go_at_call 11
         refine (works_any _).mono ?_
         rintro e W9 ⟨rfl, hB9⟩))
    go_ret
    exact ⟨rfl, HB1.out.trans (hB9.mono HB1.out.size)⟩
  | true =>
    rw [hsh] at HSH
    have hsz : a.size ≤ 200 ∧ b.size ≤ 200 ∧ c.size ≤ 200 := by
      simp only [shortT, List.all_cons, List.all_nil, Bool.and_true, Bool.and_eq_true, decide_eq_true_eq] at hsh
      exact ⟨hsh.1.1, hsh.1.2.1, hsh.1.2.2⟩
    clear hsh
    have HI : Hid (∀ W, Calls Tryd.prog 12 #[.string a, .string b, .string c] W (OpRes W (dCompare a b c))) := Lib.hid (fun W => compare_any a b c W (by omega) (by omega) (by omega))
    have HSP : Hid (∀ W, Calls Tryd.prog 14 #[.string a, .string b, .string c] W (Nw W.heap.size W (tOp 14 [tO a, tL [tO b, tO c]]))) := Lib.hid (fun W => sCompare_nw a b c W (by omega) (by omega) (by omega))
    have hmir := mir_compare a b c
    have hdp := dp_compare a b c
    have hts := sz_compare a b c hsz.1 hsz.2.1 hsz.2.2
    obtain ⟨p, hp⟩ : ∃ p, p = dCompare a b c := ⟨_, rfl⟩
    obtain ⟨y, hy⟩ : ∃ y, y = tOp 14 [tO a, tL [tO b, tO c]] := ⟨_, rfl⟩
    rw [← hp] at HI hmir hdp hts
    rw [← hy] at HSP hmir
    have HSA : Hid (∀ (A3 : Option Addr) (c3 : Nat) (A4 : Option Addr) (c4 : Nat) (B3 : Option Addr) (d3 : Nat) (B4 : Option Addr) (d4 : Nat) (W : World), p.f3.length ≤ c3 → (Kd.int .u8).C W A3 p.f3.length p.f3 → p.f4.length ≤ c4 → k27.C W A4 p.f4.length p.f4 → y.f3.length ≤ d3 → (Kd.int .u8).C W B3 y.f3.length y.f3 → y.f4.length ≤ d4 → k33.C W B4 y.f4.length y.f4 →
        Calls Tryd.prog 13 #[.agg #[.int .i64 p.f0, .int .i64 p.f1, .bool p.f2, .slice A3 p.f3.length c3, .slice A4 p.f4.length c4], .bool true, .agg #[.int .i64 y.f0, .int .i64 y.f1, .bool y.f2, .slice B3 y.f3.length d3, .slice B4 y.f4.length d4]] W fun e w' => e = .returned (.bool true) ∧ Below W.heap.size W w') :=
      Lib.hid (fun A3 c3 A4 c4 B3 d3 B4 d4 W q1 q2 q3 q4 q5 q6 q7 q8 => same_any p hdp hts A3 c3 A4 c4 y hmir.symm B3 d3 B4 d4 W q1 q2 q3 q4 q5 q6 q7 q8)
    clear hp hy hmir hdp hts hsz
    go_enter Tryd.func3, Tryd.ntmps3
    go_wp2_with (first
      | (go_at_call 10
         refine (HSH.out _ rfl).mono ?_
         rintro e W1 ⟨rfl, hB1⟩
         have HB1 := Lib.hid hB1
         clear hB1)
      | (go_at_call 12
         with_reducible refine (HI.out W1).mono ?_
         rintro e W2 ⟨A3, c3, A4, c4, rfl, l3, h3, l4, h4, hB2⟩
         have HB2 := Lib.hid (HB1.out.trans (hB2.mono HB1.out.size))
         have HF := Lib.hid (And.intro l3 (And.intro (Kd.F_now h3) (And.intro l4 (Kd.F_now h4))))
         clear l3 h3 l4 h4 hB2 HB1))
    obtain ⟨W3, hW3⟩ : ∃ W3, W3 = W2.alloc (.cells #[.int .i64 p.f0, .int .i64 p.f1, .bool p.f2, .slice A3 p.f3.length c3, .slice A4 p.f4.length c4] 27) := ⟨_, rfl⟩
    rw [← hW3]
    have hb3 : Below W2.heap.size W2 W3 := by rw [hW3]; exact below_alloc (Below.refl _ _) _
    have hx3 : W3.heap[W2.heap.size]? = some (.cells #[.int .i64 p.f0, .int .i64 p.f1, .bool p.f2, .slice A3 p.f3.length c3, .slice A4 p.f4.length c4] 27 (0, 0)) := by rw [hW3]; exact blk_new _ _
    have a0 : W3.drew.cell? ⟨W2.heap.size, 0, none⟩ = some (.int .i64 p.f0) := blk_cell hx3 0
    have a1 : W3.drew.cell? ⟨W2.heap.size, 1, none⟩ = some (.int .i64 p.f1) := blk_cell hx3 1
    have a2 : W3.drew.cell? ⟨W2.heap.size, 2, none⟩ = some (.bool p.f2) := blk_cell hx3 2
    have a3 : W3.drew.cell? ⟨W2.heap.size, 3, none⟩ = some (.slice A3 p.f3.length c3) := blk_cell hx3 3
    have a4 : W3.drew.cell? ⟨W2.heap.size, 4, none⟩ = some (.slice A4 p.f4.length c4) := blk_cell hx3 4
    have HX3 : Hid (W3.drew.heap[W2.heap.size]? = some (.cells #[.int .i64 p.f0, .int .i64 p.f1, .bool p.f2, .slice A3 p.f3.length c3, .slice A4 p.f4.length c4] 27 (0, 0))) := Lib.hid hx3
    have HB4 : Hid (Below W2.heap.size W2 W3.drew) := Lib.hid hb3.drew
    clear hb3 hx3 hW3
    go_region_with (first
      | (go_at_call 14
         with_reducible refine (HSP.out _).mono ?_
         rintro e W5 h5
         obtain ⟨B3, d3, B4, d4, rfl, hl5, hB5⟩ := h5.open
         have hx5 := blk_below HX3.out hB5
         have u0 : W5.cell? ⟨W2.heap.size, 0, none⟩ = some (.int .i64 p.f0) := blk_cell hx5 0
         have u1 : W5.cell? ⟨W2.heap.size, 1, none⟩ = some (.int .i64 p.f1) := blk_cell hx5 1
         have u2 : W5.cell? ⟨W2.heap.size, 2, none⟩ = some (.bool p.f2) := blk_cell hx5 2
         have u3 : W5.cell? ⟨W2.heap.size, 3, none⟩ = some (.slice A3 p.f3.length c3) := blk_cell hx5 3
         have u4 : W5.cell? ⟨W2.heap.size, 4, none⟩ = some (.slice A4 p.f4.length c4) := blk_cell hx5 4
         have hb5 : Below W2.heap.size W2 W5 := HB4.out.trans (hB5.mono HB4.out.size)
         have HS5 := Lib.hid (HSA.out A3 c3 A4 c4 B3 d3 B4 d4 W5 HF.out.1 (Kd.C_below HF.out.2.1 hb5) HF.out.2.2.1 (Kd.C_below HF.out.2.2.2 hb5) hl5.1 (Kd.F_now hl5.2.1) hl5.2.2.1 (Kd.F_now hl5.2.2.2))
         have HB5 := Lib.hid (HB2.out.trans (hb5.mono HB2.out.size))
         clear h5 hl5 hB5 hb5 hx5)
      | (go_at_call 13
         with_reducible refine HS5.out.mono ?_
         rintro e W6 ⟨rfl, hB6⟩))
    all_goals (
      go_wp2
      go_ret
      exact ⟨rfl, HB5.out.trans (hB6.mono HB5.out.size)⟩)
end Go.Proofs.YtbmcpjkhnhbjdaaDoor.Ber
