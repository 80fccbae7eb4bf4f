/- Parts of the proof of one law, in the order in which they build. laws.FnTruncated answers true at every argument. -/
import Derived.Test.YtejbpbdlolehnaaDoorTru1
import Derived.Test.YtejbpbdlolehnaaDoorTru2
import Derived.Test.YtejbpbdlolehnaaDoorTru3
import Derived.Test.YtejbpbdlolehnaaDoorTru4
import Derived.Test.YtejbpbdlolehnaaDoorTru5
import Derived.Test.YtejbpbdlolehnaaDoorTru6
import Derived.Test.YtejbpbdlolehnaaDoorTru7
import Derived.Test.YtejbpbdlolehnaaDoorTru8
import Derived.Test.YtejbpbdlolehnaaDoorTru9
import Derived.Test.YtejbpbdlolehnaaDoorTru10
import Derived.Test.YtejbpbdlolehnaaDoorTru11
import Derived.Test.YtejbpbdlolehnaaDoorTru12
import Derived.Test.YtejbpbdlolehnaaDoorTru13
import Derived.Test.YtejbpbdlolehnaaDoorTru14
namespace Go.Proofs.YtejbpbdlolehnaaDoor.Ber
open Go.RowKit Go.Proofs.YtejbpbdlolehnaaDoorW.PrintWords Go.Proofs.YtejbpbdlolehnaaDoorW.PrintLast Go.Proofs.YtejbpbdlolehnaaDoor.Buf Go.Proofs.YtejbpbdlolehnaaDoor.Pk Go.Proofs.YtejbpbdlolehnaaDoor.Tree Go.Proofs.YtejbpbdlolehnaaDoor.Num Go.Proofs.YtejbpbdlolehnaaDoor.Ident Go.Proofs.YtejbpbdlolehnaaDoor.PFnEncode Go.Proofs.YtejbpbdlolehnaaDoor.Within
set_option linter.unusedVariables false
set_option linter.unusedSimpArgs false
theorem zz_exD (p : S25) : ∃ r, laws_zzFits1.f p.f0 p.f1 p.f2 p.f3 p.f4 = some r := by
  unfold laws_zzFits1.f
  repeat' split
  all_goals exact ⟨_, rfl⟩
/-- the guards of a packet: it fits, and it is kept -/
theorem guard_all (p : S25) (hln : lens p = true) (x : S29) (hx : x = (wi 20 p 5000).1) : ∃ k b kk kb, laws_fits.f k x.f0 x.f1 x.f2 x.f3 x.f4 = some b ∧ (b = true → spec_Kept.f kk x.f0 x.f1 x.f2 x.f3 x.f4 = some kb) ∧ (b = true → kb = true → x = mir p ∧ good x = true ∧ tsize x ≤ 5000 ∧ dpx x ≤ 20 ∧ kp x) := by
  have hsm : tsize x < 281474976710656 := hx ▸ wi_small 20 p 5000 hln (by omega) (by omega)
  obtain ⟨k, b, hfit, hgood⟩ := fits_all x (by omega)
  cases b with
  | false => exact ⟨k, false, 0, false, hfit, fun h => absurd h (by simp), fun h => absurd h (by simp)⟩
  | true =>
    obtain ⟨hg, hs, hd⟩ := hgood rfl
    obtain ⟨kk, kb, hk, hkp⟩ := kept_kp x hg (by omega)
    refine ⟨k, true, kk, kb, hfit, fun _ => hk, fun _ h => ⟨?_, hg, hs, hd, hkp h⟩⟩
    rw [hx] at hg ⊢
    exact (wi_good 20 p 5000 hg).1
/-- a packet of the reference: its bytes are read back -/
theorem par_all (p : S25) (x : S29) (hxp : x = mir p) (hg : good x = true) (hs : tsize x ≤ 5000) (hin : inB p) : Par (bytesT x) x (bytesT x).length ∧ (∀ y ∈ bytesT x, 0 ≤ y ∧ y < 256) ∧ (bytesT x).length ≤ 70000 := by
  have h1 := bytesT_le x hg (by omega)
  refine ⟨par_bytes x hg (by omega), ?_, by omega⟩
  subst hxp
  exact bytesT_in p hg hin (by omega)
set_option maxHeartbeats 6400000 in
set_option maxRecDepth 100000 in
theorem fnTruncated_any (p : S25) (A3 : Option Addr) (c3 : Nat) (A4 : Option Addr) (c4 : Nat) (n : Int) (w : World) (h3 : (Kd.int .u8).C w A3 p.f3.length p.f3) (l3 : p.f3.length ≤ c3) (h4 : k25.C w A4 p.f4.length p.f4) (l4 : p.f4.length ≤ c4) (hln : lens p = true) (hin : inB p) (hn : -9223372036854775808 ≤ n ∧ n ≤ 9223372036854775807) (va ua : Addr) (hE : EofAt w va ua) :
    Calls Tryd.prog 5 #[.agg #[.int .i64 p.f0, .int .i64 p.f1, .bool p.f2, .slice A3 p.f3.length c3, .slice A4 p.f4.length c4], .int .i64 n] w fun e w' => e = .returned (.bool true) ∧ Below w.heap.size w w' := by
  obtain ⟨r, hz⟩ := zz_exD p
  have HZ : Hid (∀ W, Below w.heap.size w W → Calls Tryd.prog 6 #[.agg #[.int .i64 p.f0, .int .i64 p.f1, .bool p.f2, .slice A3 p.f3.length c3, .slice A4 p.f4.length c4]] W fun e w' => e = .returned (.bool r) ∧ Below W.heap.size W w') :=
    Lib.hid (fun W hW => laws_zzFits1.calls _ _ _ _ _ _ _ _ _ r W (Kd.C_below h3 hW) l3 (Kd.C_below h4 hW) l4 hz)
  obtain ⟨x, hx⟩ : ∃ x, x = (wi 20 p 5000).1 := ⟨_, rfl⟩
  have HP : Hid (∀ W, Below w.heap.size w W → Calls Tryd.prog 7 #[.agg #[.int .i64 p.f0, .int .i64 p.f1, .bool p.f2, .slice A3 p.f3.length c3, .slice A4 p.f4.length c4]] W (Got W x)) :=
    Lib.hid (fun W hW => hx ▸ packet_any p A3 c3 A4 c4 W (Kd.C_below h3 hW) l3 (Kd.C_below h4 hW) l4 hln)
  obtain ⟨k, b, kk, kb, hfit, hkep, hgood⟩ := guard_all p hln x hx
  have HFT : Hid (∀ (W : World) (A5 : Option Addr) (c5 : Nat) (A6 : Option Addr) (c6 : Nat), (Kd.int .u8).C W A5 x.f3.length x.f3 → x.f3.length ≤ c5 → k29.C W A6 x.f4.length x.f4 → x.f4.length ≤ c6 → Calls Tryd.prog 8 #[.agg #[.int .i64 x.f0, .int .i64 x.f1, .bool x.f2, .slice A5 x.f3.length c5, .slice A6 x.f4.length c6]] W fun e w' => e = .returned (.bool b) ∧ Below W.heap.size W w') :=
    Lib.hid (fun W A5 c5 A6 c6 h5 l5 h6 l6 => laws_fits.calls k _ _ _ _ _ _ _ _ _ b W h5 l5 h6 l6 hfit)
  have HKT : Hid (b = true → ∀ (W : World) (A5 : Option Addr) (c5 : Nat) (A6 : Option Addr) (c6 : Nat), (Kd.int .u8).C W A5 x.f3.length x.f3 → x.f3.length ≤ c5 → k29.C W A6 x.f4.length x.f4 → x.f4.length ≤ c6 → Calls Tryd.prog 9 #[.agg #[.int .i64 x.f0, .int .i64 x.f1, .bool x.f2, .slice A5 x.f3.length c5, .slice A6 x.f4.length c6]] W fun e w' => e = .returned (.bool kb) ∧ Below W.heap.size W w') :=
    Lib.hid (fun hb W A5 c5 A6 c6 h5 l5 h6 l6 => spec_Kept.calls kk _ _ _ _ _ _ _ _ _ kb W h5 l5 h6 l6 (hkep hb))
  have HSB : Hid (b = true → kb = true → ∀ (W : World) (A5 : Option Addr) (c5 : Nat) (A6 : Option Addr) (c6 : Nat), (Kd.int .u8).C W A5 x.f3.length x.f3 → x.f3.length ≤ c5 → k29.C W A6 x.f4.length x.f4 → x.f4.length ≤ c6 → Calls Tryd.prog 12 #[.agg #[.int .i64 x.f0, .int .i64 x.f1, .bool x.f2, .slice A5 x.f3.length c5, .slice A6 x.f4.length c6]] W fun e w' => ∃ Av cv, e = .returned (.slice Av (bytesT x).length cv) ∧ B8.R 5 w' W.heap.size (fun _ => True) (.slice Av (bytesT x).length cv) (bytesT x) ∧ Below W.heap.size W w') :=
    Lib.hid (fun hb hk W A5 c5 A6 c6 h5 l5 h6 l6 => by
      obtain ⟨h1, hg, h2, _⟩ := hgood hb hk
      obtain ⟨k', hk'⟩ := bytes_ex x hg (by omega)
      refine (spec_Bytes.calls k' _ _ _ _ _ _ _ _ _ _ W h5 l5 h6 l6 hk').mono ?_
      rintro e w' ⟨v, he, hR, hB⟩
      obtain ⟨Av, cv, hv⟩ := Kd.R_slice hR
      subst hv
      exact ⟨Av, cv, he, hR, hB⟩)
  have HXM := Lib.hid hgood
  have HIN := Lib.hid hin
  have HEO := Lib.hid hE
  clear hz hx hfit hkep hgood h3 h4 hln l3 l4 hin hE
  have hn0 : -9223372036854775808 ≤ n := hn.1
  have hn1 : n ≤ 9223372036854775807 := hn.2
  clear hn
  by_cases hall : r = true ∧ b = true ∧ kb = true
  rotate_left
  · have e1 : r = false ∨ (r = true ∧ b = false) ∨ (r = true ∧ b = true ∧ kb = false) := by
      cases r <;> cases b <;> cases kb <;> simp at hall ⊢
    clear hall
    rcases e1 with rfl | ⟨rfl, rfl⟩ | ⟨rfl, rfl, rfl⟩
    all_goals try replace HKT := Lib.hid (HKT.out rfl)
    all_goals clear HSB HXM
    all_goals go_enter Tryd.func5, Tryd.ntmps5
    all_goals go_wp2_with (first
      | (go_at_call 6
         obtain ⟨W0, hW0⟩ : ∃ W0, W0 = w.alloc (.cells #[.int .i64 p.f0, .int .i64 p.f1, .bool p.f2, .slice A3 p.f3.length c3, .slice A4 p.f4.length c4] 25) := ⟨_, rfl⟩
         rw [← hW0]
         have hb0 : Below w.heap.size w W0 := by rw [hW0]; exact below_alloc (Below.refl _ _) _
         have hx0 : W0.heap[w.heap.size]? = some (.cells #[.int .i64 p.f0, .int .i64 p.f1, .bool p.f2, .slice A3 p.f3.length c3, .slice A4 p.f4.length c4] 25 (0, 0)) := by rw [hW0]; exact blk_new _ _
         clear hW0
         refine (HZ.out W0 hb0).mono ?_
         rintro e W1 ⟨rfl, hB1⟩
         have HB1 := Lib.hid (hb0.trans (hB1.mono hb0.size))
         have HX1 := Lib.hid (blk_below hx0 hB1)
         have b0 : W1.cell? ⟨w.heap.size, 0, none⟩ = some (.int .i64 p.f0) := blk_cell HX1.out 0
         have b1 : W1.cell? ⟨w.heap.size, 1, none⟩ = some (.int .i64 p.f1) := blk_cell HX1.out 1
         have b2 : W1.cell? ⟨w.heap.size, 2, none⟩ = some (.bool p.f2) := blk_cell HX1.out 2
         have b3 : W1.cell? ⟨w.heap.size, 3, none⟩ = some (.slice A3 p.f3.length c3) := blk_cell HX1.out 3
         have b4 : W1.cell? ⟨w.heap.size, 4, none⟩ = some (.slice A4 p.f4.length c4) := blk_cell HX1.out 4
         clear hb0 hx0 hB1)
      | (go_at_call 7
         refine (HP.out W1 HB1.out).mono ?_
         rintro e W3 ⟨A5, c5, A6, c6, rfl, l5, h5, l6, h6, hB3⟩
         have HC3 : Hid ((Kd.int .u8).C W3 A5 x.f3.length x.f3 ∧ x.f3.length ≤ c5 ∧ k29.C W3 A6 x.f4.length x.f4 ∧ x.f4.length ≤ c6) := Lib.hid ⟨h5, l5, h6, l6⟩
         have HB3 := Lib.hid (HB1.out.trans (hB3.mono HB1.out.size))
         clear hB3 h5 l5 h6 l6 b0 b1 b2 b3 b4)
      | (go_at_call 8
         obtain ⟨W4, hW4⟩ : ∃ W4, W4 = W3.alloc (.cells #[.int .i64 x.f0, .int .i64 x.f1, .bool x.f2, .slice A5 x.f3.length c5, .slice A6 x.f4.length c6] 29) := ⟨_, rfl⟩
         rw [← hW4]
         have hb4 : Below W3.heap.size W3 W4 := by rw [hW4]; exact below_alloc (Below.refl _ _) _
         have hx4 : W4.heap[W3.heap.size]? = some (.cells #[.int .i64 x.f0, .int .i64 x.f1, .bool x.f2, .slice A5 x.f3.length c5, .slice A6 x.f4.length c6] 29 (0, 0)) := by rw [hW4]; exact blk_new _ _
         clear hW4
         refine (HFT.out W4 A5 c5 A6 c6 (Kd.C_below HC3.out.1 hb4) HC3.out.2.1 (Kd.C_below HC3.out.2.2.1 hb4) HC3.out.2.2.2).mono ?_
         rintro e W5 ⟨rfl, hB5⟩
         have hb5 : Below W3.heap.size W3 W5 := hb4.trans (hB5.mono hb4.size)
         have HC5 : Hid ((Kd.int .u8).C W5 A5 x.f3.length x.f3 ∧ x.f3.length ≤ c5 ∧ k29.C W5 A6 x.f4.length x.f4 ∧ x.f4.length ≤ c6) := Lib.hid ⟨Kd.C_below HC3.out.1 hb5, HC3.out.2.1, Kd.C_below HC3.out.2.2.1 hb5, HC3.out.2.2.2⟩
         have HB5 := Lib.hid (HB3.out.trans (hb5.mono HB3.out.size))
         have HY5 := Lib.hid (blk_below hx4 hB5)
         have d0 : W5.cell? ⟨W3.heap.size, 0, none⟩ = some (.int .i64 x.f0) := blk_cell HY5.out 0
         have d1 : W5.cell? ⟨W3.heap.size, 1, none⟩ = some (.int .i64 x.f1) := blk_cell HY5.out 1
         have d2 : W5.cell? ⟨W3.heap.size, 2, none⟩ = some (.bool x.f2) := blk_cell HY5.out 2
         have d3 : W5.cell? ⟨W3.heap.size, 3, none⟩ = some (.slice A5 x.f3.length c5) := blk_cell HY5.out 3
         have d4 : W5.cell? ⟨W3.heap.size, 4, none⟩ = some (.slice A6 x.f4.length c6) := blk_cell HY5.out 4
         clear hb4 hx4 hB5 hb5 HC3)
      | (go_at_call 9
         refine (HKT.out W5 A5 c5 A6 c6 HC5.out.1 HC5.out.2.1 HC5.out.2.2.1 HC5.out.2.2.2).mono ?_
         rintro e W6 ⟨rfl, hB6⟩
         have HC6 : Hid ((Kd.int .u8).C W6 A5 x.f3.length x.f3 ∧ x.f3.length ≤ c5 ∧ k29.C W6 A6 x.f4.length x.f4 ∧ x.f4.length ≤ c6) := Lib.hid ⟨Kd.C_below HC5.out.1 hB6, HC5.out.2.1, Kd.C_below HC5.out.2.2.1 hB6, HC5.out.2.2.2⟩
         have HB6 := Lib.hid (HB5.out.trans (hB6.mono HB5.out.size))
         have HY6 := Lib.hid (blk_below HY5.out hB6)
         have f0 : W6.cell? ⟨W3.heap.size, 0, none⟩ = some (.int .i64 x.f0) := blk_cell HY6.out 0
         have f1 : W6.cell? ⟨W3.heap.size, 1, none⟩ = some (.int .i64 x.f1) := blk_cell HY6.out 1
         have f2 : W6.cell? ⟨W3.heap.size, 2, none⟩ = some (.bool x.f2) := blk_cell HY6.out 2
         have f3 : W6.cell? ⟨W3.heap.size, 3, none⟩ = some (.slice A5 x.f3.length c5) := blk_cell HY6.out 3
         have f4 : W6.cell? ⟨W3.heap.size, 4, none⟩ = some (.slice A6 x.f4.length c6) := blk_cell HY6.out 4
         clear hB6 d0 d1 d2 d3 d4)
      | (go_at_call 10
         refine (works_any _).mono ?_
         rintro e W9 ⟨rfl, hB9⟩
         have HB9 := Lib.hid hB9
         clear hB9))
    all_goals go_ret
    all_goals first
      | exact ⟨rfl, HB6.out.trans (HB9.out.mono HB6.out.size)⟩
      | exact ⟨rfl, HB5.out.trans (HB9.out.mono HB5.out.size)⟩
      | exact ⟨rfl, HB1.out⟩
  obtain ⟨rfl, rfl, rfl⟩ := hall
  obtain ⟨hxm, hgd, hts, htd, hkp⟩ := HXM.out rfl rfl
  replace HKT := Lib.hid (HKT.out rfl)
  replace HSB := Lib.hid (HSB.out rfl rfl)
  clear HXM
  obtain ⟨hpar, hbin, hbl⟩ := par_all p x hxm hgd hts HIN.out
  obtain ⟨bl, hbl2⟩ : ∃ bl, bl = (bytesT x).length := ⟨_, rfl⟩
  rw [← hbl2] at HSB
  by_cases hnr : n < 0 ∨ (bl : Int) ≤ n
  · have e1 : decide (n < 0) = true ∨ (decide (n < 0) = false ∧ decide ((bl : Int) ≤ n) = true) := by
      rcases hnr with h | h
      · exact .inl (decide_eq_true h)
      · by_cases h0 : n < 0
        · exact .inl (decide_eq_true h0)
        · exact .inr ⟨decide_eq_false h0, decide_eq_true h⟩
    clear hnr hxm hgd hts htd hkp hpar hbin hbl hbl2
    rcases e1 with q1 | ⟨q1, q2⟩
    all_goals go_enter Tryd.func5, Tryd.ntmps5
    all_goals go_wp2_with (first
      | (go_at_call 6
         obtain ⟨W0, hW0⟩ : ∃ W0, W0 = w.alloc (.cells #[.int .i64 p.f0, .int .i64 p.f1, .bool p.f2, .slice A3 p.f3.length c3, .slice A4 p.f4.length c4] 25) := ⟨_, rfl⟩
         rw [← hW0]
         have hb0 : Below w.heap.size w W0 := by rw [hW0]; exact below_alloc (Below.refl _ _) _
         have hx0 : W0.heap[w.heap.size]? = some (.cells #[.int .i64 p.f0, .int .i64 p.f1, .bool p.f2, .slice A3 p.f3.length c3, .slice A4 p.f4.length c4] 25 (0, 0)) := by rw [hW0]; exact blk_new _ _
         clear hW0
         refine (HZ.out W0 hb0).mono ?_
         rintro e W1 ⟨rfl, hB1⟩
         have HB1 := Lib.hid (hb0.trans (hB1.mono hb0.size))
         have HX1 := Lib.hid (blk_below hx0 hB1)
         have b0 : W1.cell? ⟨w.heap.size, 0, none⟩ = some (.int .i64 p.f0) := blk_cell HX1.out 0
         have b1 : W1.cell? ⟨w.heap.size, 1, none⟩ = some (.int .i64 p.f1) := blk_cell HX1.out 1
         have b2 : W1.cell? ⟨w.heap.size, 2, none⟩ = some (.bool p.f2) := blk_cell HX1.out 2
         have b3 : W1.cell? ⟨w.heap.size, 3, none⟩ = some (.slice A3 p.f3.length c3) := blk_cell HX1.out 3
         have b4 : W1.cell? ⟨w.heap.size, 4, none⟩ = some (.slice A4 p.f4.length c4) := blk_cell HX1.out 4
         clear hb0 hx0 hB1)
      | (go_at_call 7
         refine (HP.out W1 HB1.out).mono ?_
         rintro e W3 ⟨A5, c5, A6, c6, rfl, l5, h5, l6, h6, hB3⟩
         have HC3 : Hid ((Kd.int .u8).C W3 A5 x.f3.length x.f3 ∧ x.f3.length ≤ c5 ∧ k29.C W3 A6 x.f4.length x.f4 ∧ x.f4.length ≤ c6) := Lib.hid ⟨h5, l5, h6, l6⟩
         have HB3 := Lib.hid (HB1.out.trans (hB3.mono HB1.out.size))
         clear hB3 h5 l5 h6 l6 b0 b1 b2 b3 b4)
      | (go_at_call 8
         obtain ⟨W4, hW4⟩ : ∃ W4, W4 = W3.alloc (.cells #[.int .i64 x.f0, .int .i64 x.f1, .bool x.f2, .slice A5 x.f3.length c5, .slice A6 x.f4.length c6] 29) := ⟨_, rfl⟩
         rw [← hW4]
         have hb4 : Below W3.heap.size W3 W4 := by rw [hW4]; exact below_alloc (Below.refl _ _) _
         have hx4 : W4.heap[W3.heap.size]? = some (.cells #[.int .i64 x.f0, .int .i64 x.f1, .bool x.f2, .slice A5 x.f3.length c5, .slice A6 x.f4.length c6] 29 (0, 0)) := by rw [hW4]; exact blk_new _ _
         clear hW4
         refine (HFT.out W4 A5 c5 A6 c6 (Kd.C_below HC3.out.1 hb4) HC3.out.2.1 (Kd.C_below HC3.out.2.2.1 hb4) HC3.out.2.2.2).mono ?_
         rintro e W5 ⟨rfl, hB5⟩
         have hb5 : Below W3.heap.size W3 W5 := hb4.trans (hB5.mono hb4.size)
         have HC5 : Hid ((Kd.int .u8).C W5 A5 x.f3.length x.f3 ∧ x.f3.length ≤ c5 ∧ k29.C W5 A6 x.f4.length x.f4 ∧ x.f4.length ≤ c6) := Lib.hid ⟨Kd.C_below HC3.out.1 hb5, HC3.out.2.1, Kd.C_below HC3.out.2.2.1 hb5, HC3.out.2.2.2⟩
         have HB5 := Lib.hid (HB3.out.trans (hb5.mono HB3.out.size))
         have HY5 := Lib.hid (blk_below hx4 hB5)
         have d0 : W5.cell? ⟨W3.heap.size, 0, none⟩ = some (.int .i64 x.f0) := blk_cell HY5.out 0
         have d1 : W5.cell? ⟨W3.heap.size, 1, none⟩ = some (.int .i64 x.f1) := blk_cell HY5.out 1
         have d2 : W5.cell? ⟨W3.heap.size, 2, none⟩ = some (.bool x.f2) := blk_cell HY5.out 2
         have d3 : W5.cell? ⟨W3.heap.size, 3, none⟩ = some (.slice A5 x.f3.length c5) := blk_cell HY5.out 3
         have d4 : W5.cell? ⟨W3.heap.size, 4, none⟩ = some (.slice A6 x.f4.length c6) := blk_cell HY5.out 4
         clear hb4 hx4 hB5 hb5 HC3)
      | (go_at_call 9
         refine (HKT.out W5 A5 c5 A6 c6 HC5.out.1 HC5.out.2.1 HC5.out.2.2.1 HC5.out.2.2.2).mono ?_
         rintro e W6 ⟨rfl, hB6⟩
         have HC6 : Hid ((Kd.int .u8).C W6 A5 x.f3.length x.f3 ∧ x.f3.length ≤ c5 ∧ k29.C W6 A6 x.f4.length x.f4 ∧ x.f4.length ≤ c6) := Lib.hid ⟨Kd.C_below HC5.out.1 hB6, HC5.out.2.1, Kd.C_below HC5.out.2.2.1 hB6, HC5.out.2.2.2⟩
         have HB6 := Lib.hid (HB5.out.trans (hB6.mono HB5.out.size))
         have HY6 := Lib.hid (blk_below HY5.out hB6)
         have f0 : W6.cell? ⟨W3.heap.size, 0, none⟩ = some (.int .i64 x.f0) := blk_cell HY6.out 0
         have f1 : W6.cell? ⟨W3.heap.size, 1, none⟩ = some (.int .i64 x.f1) := blk_cell HY6.out 1
         have f2 : W6.cell? ⟨W3.heap.size, 2, none⟩ = some (.bool x.f2) := blk_cell HY6.out 2
         have f3 : W6.cell? ⟨W3.heap.size, 3, none⟩ = some (.slice A5 x.f3.length c5) := blk_cell HY6.out 3
         have f4 : W6.cell? ⟨W3.heap.size, 4, none⟩ = some (.slice A6 x.f4.length c6) := blk_cell HY6.out 4
         clear hB6 d0 d1 d2 d3 d4)
      | (go_at_call 12
         refine (HSB.out W6 A5 c5 A6 c6 HC6.out.1 HC6.out.2.1 HC6.out.2.2.1 HC6.out.2.2.2).mono ?_
         rintro e W7 ⟨Av, cv, rfl, hR7, hB7⟩
         have HR7 := Lib.hid hR7
         have HC7 : Hid ((Kd.int .u8).C W7 A5 x.f3.length x.f3 ∧ x.f3.length ≤ c5 ∧ k29.C W7 A6 x.f4.length x.f4 ∧ x.f4.length ≤ c6) := Lib.hid ⟨Kd.C_below HC6.out.1 hB7, HC6.out.2.1, Kd.C_below HC6.out.2.2.1 hB7, HC6.out.2.2.2⟩
         have HB7 := Lib.hid (HB6.out.trans (hB7.mono HB6.out.size))
         have HY7 := Lib.hid (blk_below HY6.out hB7)
         clear hB7 hR7 f0 f1 f2 f3 f4)
      | (go_at_call 10
         refine (works_any _).mono ?_
         rintro e W9 ⟨rfl, hB9⟩
         have HB9 := Lib.hid hB9
         clear hB9))
    all_goals go_ret
    all_goals exact ⟨rfl, HB7.out.trans (HB9.out.mono HB7.out.size)⟩
  · have q1 : decide (n < 0) = false := decide_eq_false (by omega)
    have q2 : decide ((bl : Int) ≤ n) = false := decide_eq_false (by omega)
    obtain ⟨m, hm⟩ : ∃ m : Nat, n = m := ⟨n.toNat, by omega⟩
    have hnt : n.toNat = m := by omega
    have h0n : 0 ≤ n := by omega
    have hml : m < bl := by omega
    have hkb : n ≤ (bl : Int) := by omega
    have HDE : Hid (∀ (W : World) (Av : Option Addr) (cv : Nat), Below w.heap.size w W → B8.R 5 W w.heap.size (fun _ => True) (.slice Av bl cv) (bytesT x) → Calls Tryd.prog 11 #[.slice Av m cv] W fun e w' => e = .returned (.tuple #[.agg #[.int .i64 0, .int .i64 0, .bool false, .slice none 0 0, .slice none 0 0], .int .i64 0, .bool false]) ∧ Below W.heap.size W w') := Lib.hid (fun W Av cv hb hR => by
      have ht := Kd.R_take (m := m) hR (by omega)
      obtain ⟨A', c', hv, _, hC⟩ := Kd.R_reads ht
      have hlen : ((bytesT x).take m).length = m := by rw [List.length_take]; omega
      rw [hlen] at hv
      injection hv with e1 _ e2
      subst e1 e2
      have hD := decode_any x (by omega) hkp hgd (by omega) va ua Av cv ((bytesT x).take m) ((bytesT x).drop m) (bytesT x).length W (HEO.out.keep (S := fun _ => True) HEO.out.lt hb.block) hC (by rw [List.take_append_drop]; exact hpar) (by rw [List.take_append_drop]; exact hbin) (by rw [List.take_append_drop]; omega)
      rw [hlen] at hD
      refine hD.mono ?_
      rintro e w' ⟨_, h2, hB⟩
      exact ⟨h2 (by omega), hB⟩)
    have hm0 : (m : Int) ≤ (bl : Int) := by omega
    have HBL : Hid (n ≤ ((bytesT x).length : Int)) := Lib.hid (by omega)
    clear hnr hxm hgd hts htd hkp hpar hbin hbl hbl2 hml hm
    go_enter Tryd.func5, Tryd.ntmps5
    go_wp2_with (first
      | (go_at_call 6
         obtain ⟨W0, hW0⟩ : ∃ W0, W0 = w.alloc (.cells #[.int .i64 p.f0, .int .i64 p.f1, .bool p.f2, .slice A3 p.f3.length c3, .slice A4 p.f4.length c4] 25) := ⟨_, rfl⟩
         rw [← hW0]
         have hb0 : Below w.heap.size w W0 := by rw [hW0]; exact below_alloc (Below.refl _ _) _
         have hx0 : W0.heap[w.heap.size]? = some (.cells #[.int .i64 p.f0, .int .i64 p.f1, .bool p.f2, .slice A3 p.f3.length c3, .slice A4 p.f4.length c4] 25 (0, 0)) := by rw [hW0]; exact blk_new _ _
         clear hW0
         refine (HZ.out W0 hb0).mono ?_
         rintro e W1 ⟨rfl, hB1⟩
         have HB1 := Lib.hid (hb0.trans (hB1.mono hb0.size))
         have HX1 := Lib.hid (blk_below hx0 hB1)
         have b0 : W1.cell? ⟨w.heap.size, 0, none⟩ = some (.int .i64 p.f0) := blk_cell HX1.out 0
         have b1 : W1.cell? ⟨w.heap.size, 1, none⟩ = some (.int .i64 p.f1) := blk_cell HX1.out 1
         have b2 : W1.cell? ⟨w.heap.size, 2, none⟩ = some (.bool p.f2) := blk_cell HX1.out 2
         have b3 : W1.cell? ⟨w.heap.size, 3, none⟩ = some (.slice A3 p.f3.length c3) := blk_cell HX1.out 3
         have b4 : W1.cell? ⟨w.heap.size, 4, none⟩ = some (.slice A4 p.f4.length c4) := blk_cell HX1.out 4
         clear hb0 hx0 hB1)
      | (go_at_call 7
         refine (HP.out W1 HB1.out).mono ?_
         rintro e W3 ⟨A5, c5, A6, c6, rfl, l5, h5, l6, h6, hB3⟩
         have HC3 : Hid ((Kd.int .u8).C W3 A5 x.f3.length x.f3 ∧ x.f3.length ≤ c5 ∧ k29.C W3 A6 x.f4.length x.f4 ∧ x.f4.length ≤ c6) := Lib.hid ⟨h5, l5, h6, l6⟩
         have HB3 := Lib.hid (HB1.out.trans (hB3.mono HB1.out.size))
         clear hB3 h5 l5 h6 l6 b0 b1 b2 b3 b4)
      | (go_at_call 8
         obtain ⟨W4, hW4⟩ : ∃ W4, W4 = W3.alloc (.cells #[.int .i64 x.f0, .int .i64 x.f1, .bool x.f2, .slice A5 x.f3.length c5, .slice A6 x.f4.length c6] 29) := ⟨_, rfl⟩
         rw [← hW4]
         have hb4 : Below W3.heap.size W3 W4 := by rw [hW4]; exact below_alloc (Below.refl _ _) _
         have hx4 : W4.heap[W3.heap.size]? = some (.cells #[.int .i64 x.f0, .int .i64 x.f1, .bool x.f2, .slice A5 x.f3.length c5, .slice A6 x.f4.length c6] 29 (0, 0)) := by rw [hW4]; exact blk_new _ _
         clear hW4
         refine (HFT.out W4 A5 c5 A6 c6 (Kd.C_below HC3.out.1 hb4) HC3.out.2.1 (Kd.C_below HC3.out.2.2.1 hb4) HC3.out.2.2.2).mono ?_
         rintro e W5 ⟨rfl, hB5⟩
         have hb5 : Below W3.heap.size W3 W5 := hb4.trans (hB5.mono hb4.size)
         have HC5 : Hid ((Kd.int .u8).C W5 A5 x.f3.length x.f3 ∧ x.f3.length ≤ c5 ∧ k29.C W5 A6 x.f4.length x.f4 ∧ x.f4.length ≤ c6) := Lib.hid ⟨Kd.C_below HC3.out.1 hb5, HC3.out.2.1, Kd.C_below HC3.out.2.2.1 hb5, HC3.out.2.2.2⟩
         have HB5 := Lib.hid (HB3.out.trans (hb5.mono HB3.out.size))
         have HY5 := Lib.hid (blk_below hx4 hB5)
         have d0 : W5.cell? ⟨W3.heap.size, 0, none⟩ = some (.int .i64 x.f0) := blk_cell HY5.out 0
         have d1 : W5.cell? ⟨W3.heap.size, 1, none⟩ = some (.int .i64 x.f1) := blk_cell HY5.out 1
         have d2 : W5.cell? ⟨W3.heap.size, 2, none⟩ = some (.bool x.f2) := blk_cell HY5.out 2
         have d3 : W5.cell? ⟨W3.heap.size, 3, none⟩ = some (.slice A5 x.f3.length c5) := blk_cell HY5.out 3
         have d4 : W5.cell? ⟨W3.heap.size, 4, none⟩ = some (.slice A6 x.f4.length c6) := blk_cell HY5.out 4
         clear hb4 hx4 hB5 hb5 HC3)
      | (go_at_call 9
         refine (HKT.out W5 A5 c5 A6 c6 HC5.out.1 HC5.out.2.1 HC5.out.2.2.1 HC5.out.2.2.2).mono ?_
         rintro e W6 ⟨rfl, hB6⟩
         have HC6 : Hid ((Kd.int .u8).C W6 A5 x.f3.length x.f3 ∧ x.f3.length ≤ c5 ∧ k29.C W6 A6 x.f4.length x.f4 ∧ x.f4.length ≤ c6) := Lib.hid ⟨Kd.C_below HC5.out.1 hB6, HC5.out.2.1, Kd.C_below HC5.out.2.2.1 hB6, HC5.out.2.2.2⟩
         have HB6 := Lib.hid (HB5.out.trans (hB6.mono HB5.out.size))
         have HY6 := Lib.hid (blk_below HY5.out hB6)
         have f0 : W6.cell? ⟨W3.heap.size, 0, none⟩ = some (.int .i64 x.f0) := blk_cell HY6.out 0
         have f1 : W6.cell? ⟨W3.heap.size, 1, none⟩ = some (.int .i64 x.f1) := blk_cell HY6.out 1
         have f2 : W6.cell? ⟨W3.heap.size, 2, none⟩ = some (.bool x.f2) := blk_cell HY6.out 2
         have f3 : W6.cell? ⟨W3.heap.size, 3, none⟩ = some (.slice A5 x.f3.length c5) := blk_cell HY6.out 3
         have f4 : W6.cell? ⟨W3.heap.size, 4, none⟩ = some (.slice A6 x.f4.length c6) := blk_cell HY6.out 4
         clear hB6 d0 d1 d2 d3 d4)
      | (go_at_call 12
         refine (HSB.out W6 A5 c5 A6 c6 HC6.out.1 HC6.out.2.1 HC6.out.2.2.1 HC6.out.2.2.2).mono ?_
         rintro e W7 ⟨Av, cv, rfl, hR7, hB7⟩
         have HR7 := Lib.hid hR7
         have HC7 : Hid ((Kd.int .u8).C W7 A5 x.f3.length x.f3 ∧ x.f3.length ≤ c5 ∧ k29.C W7 A6 x.f4.length x.f4 ∧ x.f4.length ≤ c6) := Lib.hid ⟨Kd.C_below HC6.out.1 hB7, HC6.out.2.1, Kd.C_below HC6.out.2.2.1 hB7, HC6.out.2.2.2⟩
         have HB7 := Lib.hid (HB6.out.trans (hB7.mono HB6.out.size))
         have HY7 := Lib.hid (blk_below HY6.out hB7)
         have hcv : n ≤ (cv : Int) := by have h1 := (Kd.R_reads' hR7).2.1; have h2 := HBL.out; omega
         clear hB7 hR7 f0 f1 f2 f3 f4)
      | (go_at_call 11
         with_reducible refine (HDE.out W7 Av cv HB7.out (Kd.R_lower HR7.out HB6.out.size)).mono ?_
         rintro e W8 ⟨rfl, hB8⟩
         have HB8 := Lib.hid (HB7.out.trans (hB8.mono HB7.out.size))
         clear hB8)
      | (go_at_call 10
         refine (works_any _).mono ?_
         rintro e W9 ⟨rfl, hB9⟩
         have HB9 := Lib.hid hB9
         clear hB9))
    go_ret
    exact ⟨rfl, (HB8.out.trans (below_alloc (Below.refl _ _) _ |>.mono HB8.out.size)).trans (HB9.out.mono (by have := HB8.out.size; simp; omega))⟩
end Go.Proofs.YtejbpbdlolehnaaDoor.Ber
