/- The law FnEncode walked. Condition: the lengths within the packet are at most what memory holds. -/
import Derived.Test.YtcohjechpnlogaaDoorBuilt
import Derived.Test.YtcohjechpnlogaaDoorFuel
import Derived.Deep.RegionWith
namespace Go.Proofs.YtcohjechpnlogaaDoor.Ber
open Go.RowKit Go.Proofs.YtcohjechpnlogaaDoorW.PrintWords Go.Proofs.YtcohjechpnlogaaDoor.Buf Go.Proofs.YtcohjechpnlogaaDoor.Pk Go.Proofs.YtcohjechpnlogaaDoor.Num Go.Proofs.YtcohjechpnlogaaDoor.Ident Go.Proofs.YtcohjechpnlogaaDoor.Tree Go.Proofs.YtcohjechpnlogaaDoor.PFnEncode Go.Proofs.YtcohjechpnlogaaDoor.Within
set_option linter.unusedVariables false
set_option linter.unusedSimpArgs false

theorem zz_ex (p : S25) : ∃ r, laws_zzFits1.f p.f0 p.f1 p.f2 p.f3 p.f4 = some r := by
  unfold laws_zzFits1.f
  by_cases h1 : (p.f3.length : Int) > 2147483647
  · exact ⟨_, if_pos h1⟩
  · rw [if_neg h1]
    by_cases h2 : (p.f4.length : Int) > 2147483647
    · exact ⟨_, if_pos h2⟩
    · exact ⟨_, if_neg h2⟩

set_option maxHeartbeats 1600000 in
set_option maxRecDepth 100000 in
theorem fnEncode_any (p : S25) (A3 : Option Addr) (c3 : Nat) (A4 : Option Addr) (c4 : Nat) (w : World) (h3 : (Kd.int .u8).C w A3 p.f3.length p.f3) (l3 : p.f3.length ≤ c3) (h4 : k25.C w A4 p.f4.length p.f4) (l4 : p.f4.length ≤ c4) (hln : lens p = true) :
    Calls Tryd.prog 3 #[.agg #[.int .i64 p.f0, .int .i64 p.f1, .bool p.f2, .slice A3 p.f3.length c3, .slice A4 p.f4.length c4]] w fun e w' => e = .returned (.bool true) ∧ Below w.heap.size w w' := by
  obtain ⟨r, hz⟩ := zz_ex p
  have HZ : Hid (∀ W, Below w.heap.size w W → Calls Tryd.prog 6 #[.agg #[.int .i64 p.f0, .int .i64 p.f1, .bool p.f2, .slice A3 p.f3.length c3, .slice A4 p.f4.length c4]] W fun e w' => e = .returned (.bool r) ∧ Below W.heap.size W w') :=
    Lib.hid (fun W hW => laws_zzFits1.calls _ _ _ _ _ _ _ _ _ r W (Kd.C_below h3 hW) l3 (Kd.C_below h4 hW) l4 hz)
  obtain ⟨x, hx⟩ : ∃ x, x = (wi 20 p 5000).1 := ⟨_, rfl⟩
  have HP : Hid (∀ W, Below w.heap.size w W → Calls Tryd.prog 7 #[.agg #[.int .i64 p.f0, .int .i64 p.f1, .bool p.f2, .slice A3 p.f3.length c3, .slice A4 p.f4.length c4]] W (Got W x)) :=
    Lib.hid (fun W hW => hx ▸ packet_any p A3 c3 A4 c4 W (Kd.C_below h3 hW) l3 (Kd.C_below h4 hW) l4 hln)
  have hsm : tsize x < 281474976710656 := hx ▸ wi_small 20 p 5000 hln (by omega) (by omega)
  obtain ⟨k, b, hfit, hgood⟩ := fits_ex x (by omega)
  have HFT : Hid (∀ (W : World) (A5 : Option Addr) (c5 : Nat) (A6 : Option Addr) (c6 : Nat), (Kd.int .u8).C W A5 x.f3.length x.f3 → x.f3.length ≤ c5 → k29.C W A6 x.f4.length x.f4 → x.f4.length ≤ c6 → Calls Tryd.prog 8 #[.agg #[.int .i64 x.f0, .int .i64 x.f1, .bool x.f2, .slice A5 x.f3.length c5, .slice A6 x.f4.length c6]] W fun e w' => e = .returned (.bool b) ∧ Below W.heap.size W w') :=
    Lib.hid (fun W A5 c5 A6 c6 h5 l5 h6 l6 => laws_fits.calls k _ _ _ _ _ _ _ _ _ b W h5 l5 h6 l6 hfit)
  have hxm : b = true → x = mir p ∧ tsize (mir p) ≤ 1000000 := fun hb => by
    have hg := hgood hb
    rw [hx] at hg ⊢
    obtain ⟨h1, h2, h3⟩ := wi_good 20 p 5000 hg
    exact ⟨h1, by omega⟩
  have HEN : Hid (b = true → ∀ W, Below w.heap.size w W → Calls Tryd.prog 10 #[.agg #[.int .i64 p.f0, .int .i64 p.f1, .bool p.f2, .slice A3 p.f3.length c3, .slice A4 p.f4.length c4]] W fun e w' => ∃ r, e = .returned r ∧ w'.ownsRow W.heap.size 5 1 r (bytesT x).length (nums .u8 (bytesT x)) ∧ Below W.heap.size W w') :=
    Lib.hid (fun hb W hW => by
      obtain ⟨h1, h2⟩ := hxm hb
      have hg := hgood hb
      rw [h1] at hg ⊢
      exact encodeP_any w p A3 c3 A4 c4 W hg h2 h3 h4 hW)
  have HSB : Hid (b = true → ∀ (W : World) (A5 : Option Addr) (c5 : Nat) (A6 : Option Addr) (c6 : Nat), (Kd.int .u8).C W A5 x.f3.length x.f3 → x.f3.length ≤ c5 → k29.C W A6 x.f4.length x.f4 → x.f4.length ≤ c6 → Calls Tryd.prog 11 #[.agg #[.int .i64 x.f0, .int .i64 x.f1, .bool x.f2, .slice A5 x.f3.length c5, .slice A6 x.f4.length c6]] W fun e w' => ∃ v, e = .returned v ∧ w'.ownsRow W.heap.size 5 1 v (bytesT x).length (nums .u8 (bytesT x)) ∧ Below W.heap.size W w') :=
    Lib.hid (fun hb W A5 c5 A6 c6 h5 l5 h6 l6 => by
      obtain ⟨h1, h2⟩ := hxm hb
      obtain ⟨k', hk'⟩ := bytes_ex x (hgood hb) (by rw [h1]; omega)
      refine (spec_Bytes.calls k' _ _ _ _ _ _ _ _ _ _ W h5 l5 h6 l6 hk').mono ?_
      rintro e w' ⟨v, he, hR, hB⟩
      exact ⟨v, he, int_own hR, hB⟩)
  clear hz hx hsm hfit hgood hxm h3 h4 hln l3 l4
  cases r with
  | false =>
    go_enter Tryd.func3, Tryd.ntmps3
    go_wp2_with (first
      | (go_at_call 6
         obtain ⟨W0, hW0⟩ : ∃ W0, W0 = w.alloc (.cells #[.int .i64 p.f0, .int .i64 p.f1, .bool p.f2, .slice A3 p.f3.length c3, .slice A4 p.f4.length c4] 25) := ⟨_, rfl⟩
         rw [← hW0]
         have hb0 : Below w.heap.size w W0 := by rw [hW0]; exact below_alloc (Below.refl _ _) _
         have hx0 : W0.heap[w.heap.size]? = some (.cells #[.int .i64 p.f0, .int .i64 p.f1, .bool p.f2, .slice A3 p.f3.length c3, .slice A4 p.f4.length c4] 25 (0, 0)) := by rw [hW0]; exact blk_new _ _
         clear hW0
         refine (HZ.out W0 hb0).mono ?_
         rintro e W1 ⟨rfl, hB1⟩
         have HB1 := Lib.hid (hb0.trans (hB1.mono hb0.size))
         have HX1 := Lib.hid (blk_below hx0 hB1)
         have b0 : W1.cell? ⟨w.heap.size, 0, none⟩ = some (.int .i64 p.f0) := blk_cell HX1.out 0
         have b1 : W1.cell? ⟨w.heap.size, 1, none⟩ = some (.int .i64 p.f1) := blk_cell HX1.out 1
         have b2 : W1.cell? ⟨w.heap.size, 2, none⟩ = some (.bool p.f2) := blk_cell HX1.out 2
         have b3 : W1.cell? ⟨w.heap.size, 3, none⟩ = some (.slice A3 p.f3.length c3) := blk_cell HX1.out 3
         have b4 : W1.cell? ⟨w.heap.size, 4, none⟩ = some (.slice A4 p.f4.length c4) := blk_cell HX1.out 4
         clear hb0 hx0 hB1))
    go_ret
    exact ⟨rfl, HB1.out⟩
  | true =>
    cases b with
    | false =>
      go_enter Tryd.func3, Tryd.ntmps3
      go_wp2_with (first
        | (go_at_call 6
           obtain ⟨W0, hW0⟩ : ∃ W0, W0 = w.alloc (.cells #[.int .i64 p.f0, .int .i64 p.f1, .bool p.f2, .slice A3 p.f3.length c3, .slice A4 p.f4.length c4] 25) := ⟨_, rfl⟩
           rw [← hW0]
           have hb0 : Below w.heap.size w W0 := by rw [hW0]; exact below_alloc (Below.refl _ _) _
           have hx0 : W0.heap[w.heap.size]? = some (.cells #[.int .i64 p.f0, .int .i64 p.f1, .bool p.f2, .slice A3 p.f3.length c3, .slice A4 p.f4.length c4] 25 (0, 0)) := by rw [hW0]; exact blk_new _ _
           clear hW0
           refine (HZ.out W0 hb0).mono ?_
           rintro e W1 ⟨rfl, hB1⟩
           have HB1 := Lib.hid (hb0.trans (hB1.mono hb0.size))
           have HX1 := Lib.hid (blk_below hx0 hB1)
           have b0 : W1.cell? ⟨w.heap.size, 0, none⟩ = some (.int .i64 p.f0) := blk_cell HX1.out 0
           have b1 : W1.cell? ⟨w.heap.size, 1, none⟩ = some (.int .i64 p.f1) := blk_cell HX1.out 1
           have b2 : W1.cell? ⟨w.heap.size, 2, none⟩ = some (.bool p.f2) := blk_cell HX1.out 2
           have b3 : W1.cell? ⟨w.heap.size, 3, none⟩ = some (.slice A3 p.f3.length c3) := blk_cell HX1.out 3
           have b4 : W1.cell? ⟨w.heap.size, 4, none⟩ = some (.slice A4 p.f4.length c4) := blk_cell HX1.out 4
           clear hb0 hx0 hB1)
        | (go_at_call 7
           refine (HP.out W1 HB1.out).mono ?_
           rintro e W2 ⟨A5, c5, A6, c6, rfl, l5, h5, l6, h6, hB2⟩
           have HC2 : Hid ((Kd.int .u8).C W2 A5 x.f3.length x.f3 ∧ x.f3.length ≤ c5 ∧ k29.C W2 A6 x.f4.length x.f4 ∧ x.f4.length ≤ c6) := Lib.hid ⟨h5, l5, h6, l6⟩
           have HB2 := Lib.hid (HB1.out.trans (hB2.mono HB1.out.size))
           have HX2 := Lib.hid (blk_below HX1.out hB2)
           clear hB2 h5 l5 h6 l6 b0 b1 b2 b3 b4)
        | (go_at_call 8
           obtain ⟨W3, hW3⟩ : ∃ W3, W3 = W2.alloc (.cells #[.int .i64 x.f0, .int .i64 x.f1, .bool x.f2, .slice A5 x.f3.length c5, .slice A6 x.f4.length c6] 29) := ⟨_, rfl⟩
           rw [← hW3]
           have hb3 : Below W2.heap.size W2 W3 := by rw [hW3]; exact below_alloc (Below.refl _ _) _
           have hx3 : W3.heap[W2.heap.size]? = some (.cells #[.int .i64 x.f0, .int .i64 x.f1, .bool x.f2, .slice A5 x.f3.length c5, .slice A6 x.f4.length c6] 29 (0, 0)) := by rw [hW3]; exact blk_new _ _
           clear hW3
           refine (HFT.out W3 A5 c5 A6 c6 (Kd.C_below HC2.out.1 hb3) HC2.out.2.1 (Kd.C_below HC2.out.2.2.1 hb3) HC2.out.2.2.2).mono ?_
           rintro e W4 ⟨rfl, hB4⟩
           have hb4 : Below W2.heap.size W2 W4 := hb3.trans (hB4.mono hb3.size)
           have HC4 : Hid ((Kd.int .u8).C W4 A5 x.f3.length x.f3 ∧ x.f3.length ≤ c5 ∧ k29.C W4 A6 x.f4.length x.f4 ∧ x.f4.length ≤ c6) := Lib.hid ⟨Kd.C_below HC2.out.1 hb4, HC2.out.2.1, Kd.C_below HC2.out.2.2.1 hb4, HC2.out.2.2.2⟩
           have HB4 := Lib.hid (HB2.out.trans (hb4.mono HB2.out.size))
           have HX4 := Lib.hid (blk_below HX2.out hb4)
           have HY4 := Lib.hid (blk_below hx3 hB4)
           clear hb3 hx3 hB4 hb4 HC2 HX2 HX1)
        | (go_at_call 9
           refine (works_any _).mono ?_
           rintro e W9 ⟨rfl, hB9⟩))
      go_ret
      exact ⟨rfl, HB4.out.trans (hB9.mono HB4.out.size)⟩
    | true =>
      replace HEN := Lib.hid (HEN.out rfl)
      replace HSB := Lib.hid (HSB.out rfl)
      go_enter Tryd.func3, Tryd.ntmps3
      go_wp2_with (first
        | (go_at_call 6
           obtain ⟨W0, hW0⟩ : ∃ W0, W0 = w.alloc (.cells #[.int .i64 p.f0, .int .i64 p.f1, .bool p.f2, .slice A3 p.f3.length c3, .slice A4 p.f4.length c4] 25) := ⟨_, rfl⟩
           rw [← hW0]
           have hb0 : Below w.heap.size w W0 := by rw [hW0]; exact below_alloc (Below.refl _ _) _
           have hx0 : W0.heap[w.heap.size]? = some (.cells #[.int .i64 p.f0, .int .i64 p.f1, .bool p.f2, .slice A3 p.f3.length c3, .slice A4 p.f4.length c4] 25 (0, 0)) := by rw [hW0]; exact blk_new _ _
           clear hW0
           refine (HZ.out W0 hb0).mono ?_
           rintro e W1 ⟨rfl, hB1⟩
           have HB1 := Lib.hid (hb0.trans (hB1.mono hb0.size))
           have HX1 := Lib.hid (blk_below hx0 hB1)
           have b0 : W1.cell? ⟨w.heap.size, 0, none⟩ = some (.int .i64 p.f0) := blk_cell HX1.out 0
           have b1 : W1.cell? ⟨w.heap.size, 1, none⟩ = some (.int .i64 p.f1) := blk_cell HX1.out 1
           have b2 : W1.cell? ⟨w.heap.size, 2, none⟩ = some (.bool p.f2) := blk_cell HX1.out 2
           have b3 : W1.cell? ⟨w.heap.size, 3, none⟩ = some (.slice A3 p.f3.length c3) := blk_cell HX1.out 3
           have b4 : W1.cell? ⟨w.heap.size, 4, none⟩ = some (.slice A4 p.f4.length c4) := blk_cell HX1.out 4
           clear hb0 hx0 hB1)
        | (go_at_call 7
           refine (HP.out W1 HB1.out).mono ?_
           rintro e W2 ⟨A5, c5, A6, c6, rfl, l5, h5, l6, h6, hB2⟩
           have HC2 : Hid ((Kd.int .u8).C W2 A5 x.f3.length x.f3 ∧ x.f3.length ≤ c5 ∧ k29.C W2 A6 x.f4.length x.f4 ∧ x.f4.length ≤ c6) := Lib.hid ⟨h5, l5, h6, l6⟩
           have HB2 := Lib.hid (HB1.out.trans (hB2.mono HB1.out.size))
           have HX2 := Lib.hid (blk_below HX1.out hB2)
           clear hB2 h5 l5 h6 l6 b0 b1 b2 b3 b4)
        | (go_at_call 8
           obtain ⟨W3, hW3⟩ : ∃ W3, W3 = W2.alloc (.cells #[.int .i64 x.f0, .int .i64 x.f1, .bool x.f2, .slice A5 x.f3.length c5, .slice A6 x.f4.length c6] 29) := ⟨_, rfl⟩
           rw [← hW3]
           have hb3 : Below W2.heap.size W2 W3 := by rw [hW3]; exact below_alloc (Below.refl _ _) _
           have hx3 : W3.heap[W2.heap.size]? = some (.cells #[.int .i64 x.f0, .int .i64 x.f1, .bool x.f2, .slice A5 x.f3.length c5, .slice A6 x.f4.length c6] 29 (0, 0)) := by rw [hW3]; exact blk_new _ _
           clear hW3
           refine (HFT.out W3 A5 c5 A6 c6 (Kd.C_below HC2.out.1 hb3) HC2.out.2.1 (Kd.C_below HC2.out.2.2.1 hb3) HC2.out.2.2.2).mono ?_
           rintro e W4 ⟨rfl, hB4⟩
           have hb4 : Below W2.heap.size W2 W4 := hb3.trans (hB4.mono hb3.size)
           have HC4 : Hid ((Kd.int .u8).C W4 A5 x.f3.length x.f3 ∧ x.f3.length ≤ c5 ∧ k29.C W4 A6 x.f4.length x.f4 ∧ x.f4.length ≤ c6) := Lib.hid ⟨Kd.C_below HC2.out.1 hb4, HC2.out.2.1, Kd.C_below HC2.out.2.2.1 hb4, HC2.out.2.2.2⟩
           have HB4 := Lib.hid (HB2.out.trans (hb4.mono HB2.out.size))
           have HX4 := Lib.hid (blk_below HX2.out hb4)
           have HY4 := Lib.hid (blk_below hx3 hB4)
           clear hb3 hx3 hB4 hb4 HC2 HX2 HX1))
      have hd : Below w.heap.size w W4.drew := HB4.out.drew
      have hx4 := HX4.out
      have hy4 := HY4.out
      have b0 : W4.drew.cell? ⟨w.heap.size, 0, none⟩ = some (.int .i64 p.f0) := blk_cell hx4 0
      have b1 : W4.drew.cell? ⟨w.heap.size, 1, none⟩ = some (.int .i64 p.f1) := blk_cell hx4 1
      have b2 : W4.drew.cell? ⟨w.heap.size, 2, none⟩ = some (.bool p.f2) := blk_cell hx4 2
      have b3 : W4.drew.cell? ⟨w.heap.size, 3, none⟩ = some (.slice A3 p.f3.length c3) := blk_cell hx4 3
      have b4 : W4.drew.cell? ⟨w.heap.size, 4, none⟩ = some (.slice A4 p.f4.length c4) := blk_cell hx4 4
      have s0 : W4.drew.cell? ⟨W2.heap.size, 0, none⟩ = some (.int .i64 x.f0) := blk_cell hy4 0
      have s1 : W4.drew.cell? ⟨W2.heap.size, 1, none⟩ = some (.int .i64 x.f1) := blk_cell hy4 1
      have s2 : W4.drew.cell? ⟨W2.heap.size, 2, none⟩ = some (.bool x.f2) := blk_cell hy4 2
      have s3 : W4.drew.cell? ⟨W2.heap.size, 3, none⟩ = some (.slice A5 x.f3.length c5) := blk_cell hy4 3
      have s4 : W4.drew.cell? ⟨W2.heap.size, 4, none⟩ = some (.slice A6 x.f4.length c6) := blk_cell hy4 4
      obtain ⟨s, hs⟩ : ∃ s, s = strOfNums (bytesT x) := ⟨_, rfl⟩
      have HS := Lib.hid hs
      have HD := Lib.hid hd
      clear hs hd hx4 hy4
      go_region_with (first
        | (go_at_call 10
           with_reducible refine (HEN.out _ HD.out).mono ?_
           rintro e W5 ⟨r5, rfl, ho5, hB5'⟩
           have hB5 : Below W4.heap.size W4 W5 := ⟨hB5'.os, hB5'.tape, hB5'.output, hB5'.size, hB5'.block⟩
           have hy5 := blk_below HY4.out hB5
           have hcv5 : (convert 22 9 r5).run Tryd.prog W5 = .ok (.string s) W5 := by
             rw [HS.out]
             exact own_string Tryd.underlying22 Tryd.underlying5 Tryd.underlying9 ho5
           have u0 : W5.cell? ⟨W2.heap.size, 0, none⟩ = some (.int .i64 x.f0) := blk_cell hy5 0
           have u1 : W5.cell? ⟨W2.heap.size, 1, none⟩ = some (.int .i64 x.f1) := blk_cell hy5 1
           have u2 : W5.cell? ⟨W2.heap.size, 2, none⟩ = some (.bool x.f2) := blk_cell hy5 2
           have u3 : W5.cell? ⟨W2.heap.size, 3, none⟩ = some (.slice A5 x.f3.length c5) := blk_cell hy5 3
           have u4 : W5.cell? ⟨W2.heap.size, 4, none⟩ = some (.slice A6 x.f4.length c6) := blk_cell hy5 4
           have HB5 := Lib.hid hB5
           have HO5 := Lib.hid ho5
           clear hy5 hB5 hB5' ho5)
        | (go_at_call 11
           with_reducible refine (HSB.out W5 A5 c5 A6 c6 (Kd.C_below HC4.out.1 HB5.out) HC4.out.2.1 (Kd.C_below HC4.out.2.2.1 HB5.out) HC4.out.2.2.2).mono ?_
           rintro e W6 ⟨v6, rfl, ho6, hB6⟩
           have hcv6 : (convert 22 9 v6).run Tryd.prog W6 = .ok (.string s) W6 := by
             rw [HS.out]
             exact own_string Tryd.underlying22 Tryd.underlying5 Tryd.underlying9 ho6
           have hcv7 : (convert 22 9 r5).run Tryd.prog W6 = .ok (.string s) W6 := by
             rw [HS.out]
             exact own_string Tryd.underlying22 Tryd.underlying5 Tryd.underlying9 (pw_own_below HO5.out hB6)
           have HB6 := Lib.hid hB6
           clear hB6 ho6)
        | (go_at_call 9
           refine (works_any _).mono ?_
           rintro e W7 ⟨rfl, hB7⟩
           have HB7 := Lib.hid hB7
           clear hB7))
      all_goals (
        go_wp2
        go_ret
        exact ⟨rfl, ((HB4.out.trans (HB5.out.mono HB4.out.size)).trans (HB6.out.mono (Nat.le_trans HB4.out.size HB5.out.size))).trans (HB7.out.mono (Nat.le_trans HB4.out.size (Nat.le_trans HB5.out.size HB6.out.size)))⟩)
end Go.Proofs.YtcohjechpnlogaaDoor.Ber
