/- Parts of the proof of one law, in the order in which they build. laws.FnDecode answers true at every argument. -/
import Derived.Test.YtejbpbdlolehnaaDoorDec1
import Derived.Test.YtejbpbdlolehnaaDoorDec2
import Derived.Test.YtejbpbdlolehnaaDoorDec3
import Derived.Test.YtejbpbdlolehnaaDoorDec4
import Derived.Test.YtejbpbdlolehnaaDoorDec5
import Derived.Test.YtejbpbdlolehnaaDoorDec6
import Derived.Test.YtejbpbdlolehnaaDoorDec7
import Derived.Test.YtejbpbdlolehnaaDoorDec8
import Derived.Test.YtejbpbdlolehnaaDoorDec9
import Derived.Test.YtejbpbdlolehnaaDoorDec10
import Derived.Test.YtejbpbdlolehnaaDoorDec11
import Derived.Test.YtejbpbdlolehnaaDoorDec12
import Derived.Test.YtejbpbdlolehnaaDoorDec13
import Derived.Test.YtejbpbdlolehnaaDoorDec14
import Derived.Test.YtejbpbdlolehnaaDoorDec15
namespace Go.Proofs.YtejbpbdlolehnaaDoor.Ber
open Go.RowKit Go.Proofs.YtejbpbdlolehnaaDoorW.PrintWords Go.Proofs.YtejbpbdlolehnaaDoorW.PrintLast Go.Proofs.YtejbpbdlolehnaaDoor.Buf Go.Proofs.YtejbpbdlolehnaaDoor.Pk Go.Proofs.YtejbpbdlolehnaaDoor.Tree Go.Proofs.YtejbpbdlolehnaaDoor.Num Go.Proofs.YtejbpbdlolehnaaDoor.Ident Go.Proofs.YtejbpbdlolehnaaDoor.PFnEncode Go.Proofs.YtejbpbdlolehnaaDoor.Within
set_option linter.unusedVariables false
set_option linter.unusedSimpArgs false
mutual
theorem lens_of : ∀ (p : S25), tsize (mir p) ≤ 1000000 → lens p = true
  | ⟨a, b, c, d, l⟩, h => by
    rw [mir, tsize] at h
    have hl := lensL_of l (by omega)
    have hn := len_le l
    rw [lens, hl]
    simp only [Bool.and_true, Bool.and_eq_true, decide_eq_true_eq]
    have : reachBytes = 140737488351232 := by decide
    omega
theorem lensL_of : ∀ (l : List S25), tsizeL (mirL l) ≤ 1000000 → lensL l = true
  | [], _ => rfl
  | x :: xs, h => by
    rw [mirL, tsizeL] at h
    rw [lensL, lens_of x (by omega), lensL_of xs (by omega)]
    rfl
theorem len_le : ∀ (l : List S25), l.length ≤ tsizeL (mirL l)
  | [] => Nat.zero_le _
  | ⟨a, b, c, d, l'⟩ :: xs => by
    rw [mirL, tsizeL, mir, tsize, List.length_cons]
    have := len_le xs
    omega
end
set_option maxHeartbeats 6400000 in
set_option maxRecDepth 100000 in
theorem fnDecode_any (p : S25) (A3 : Option Addr) (c3 : Nat) (A4 : Option Addr) (c4 : Nat) (bh : List Int) (Ab : Option Addr) (cb : Nat) (w : World) (h3 : (Kd.int .u8).C w A3 p.f3.length p.f3) (l3 : p.f3.length ≤ c3) (h4 : k25.C w A4 p.f4.length p.f4) (l4 : p.f4.length ≤ c4) (hln : lens p = true) (hin : inB p) (hb : B8.C w Ab bh.length bh) (lb : bh.length ≤ cb) (hbr : ∀ y ∈ bh, 0 ≤ y ∧ y < 256) (va ua : Addr) (hE : EofAt w va ua) :
    Calls Tryd.prog 3 #[.agg #[.int .i64 p.f0, .int .i64 p.f1, .bool p.f2, .slice A3 p.f3.length c3, .slice A4 p.f4.length c4], .slice Ab bh.length cb] w fun e w' => e = .returned (.bool true) ∧ Below w.heap.size w w' := by
  obtain ⟨r, hz⟩ := zz_exD p
  have HZ : Hid (∀ W, Below w.heap.size w W → Calls Tryd.prog 6 #[.agg #[.int .i64 p.f0, .int .i64 p.f1, .bool p.f2, .slice A3 p.f3.length c3, .slice A4 p.f4.length c4]] W fun e w' => e = .returned (.bool r) ∧ Below W.heap.size W w') :=
    Lib.hid (fun W hW => laws_zzFits1.calls _ _ _ _ _ _ _ _ _ r W (Kd.C_below h3 hW) l3 (Kd.C_below h4 hW) l4 hz)
  obtain ⟨x, hx⟩ : ∃ x, x = (wi 20 p 5000).1 := ⟨_, rfl⟩
  have HP : Hid (∀ W, Below w.heap.size w W → Calls Tryd.prog 7 #[.agg #[.int .i64 p.f0, .int .i64 p.f1, .bool p.f2, .slice A3 p.f3.length c3, .slice A4 p.f4.length c4]] W (Got W x)) :=
    Lib.hid (fun W hW => hx ▸ packet_any p A3 c3 A4 c4 W (Kd.C_below h3 hW) l3 (Kd.C_below h4 hW) l4 hln)
  obtain ⟨k, b, kk, kb, hfit, hkep, hgood⟩ := guard_all p hln x hx
  have HFT : Hid (∀ (W : World) (A5 : Option Addr) (c5 : Nat) (A6 : Option Addr) (c6 : Nat), (Kd.int .u8).C W A5 x.f3.length x.f3 → x.f3.length ≤ c5 → k29.C W A6 x.f4.length x.f4 → x.f4.length ≤ c6 → Calls Tryd.prog 8 #[.agg #[.int .i64 x.f0, .int .i64 x.f1, .bool x.f2, .slice A5 x.f3.length c5, .slice A6 x.f4.length c6]] W fun e w' => e = .returned (.bool b) ∧ Below W.heap.size W w') :=
    Lib.hid (fun W A5 c5 A6 c6 h5 l5 h6 l6 => laws_fits.calls k _ _ _ _ _ _ _ _ _ b W h5 l5 h6 l6 hfit)
  have HKT : Hid (b = true → ∀ (W : World) (A5 : Option Addr) (c5 : Nat) (A6 : Option Addr) (c6 : Nat), (Kd.int .u8).C W A5 x.f3.length x.f3 → x.f3.length ≤ c5 → k29.C W A6 x.f4.length x.f4 → x.f4.length ≤ c6 → Calls Tryd.prog 9 #[.agg #[.int .i64 x.f0, .int .i64 x.f1, .bool x.f2, .slice A5 x.f3.length c5, .slice A6 x.f4.length c6]] W fun e w' => e = .returned (.bool kb) ∧ Below W.heap.size W w') :=
    Lib.hid (fun hb W A5 c5 A6 c6 h5 l5 h6 l6 => spec_Kept.calls kk _ _ _ _ _ _ _ _ _ kb W h5 l5 h6 l6 (hkep hb))
  have HSB : Hid (b = true → kb = true → ∀ (W : World) (A5 : Option Addr) (c5 : Nat) (A6 : Option Addr) (c6 : Nat), (Kd.int .u8).C W A5 x.f3.length x.f3 → x.f3.length ≤ c5 → k29.C W A6 x.f4.length x.f4 → x.f4.length ≤ c6 → Calls Tryd.prog 12 #[.agg #[.int .i64 x.f0, .int .i64 x.f1, .bool x.f2, .slice A5 x.f3.length c5, .slice A6 x.f4.length c6]] W fun e w' => ∃ Av cv, e = .returned (.slice Av (bytesT x).length cv) ∧ B8.R 5 w' W.heap.size (fun _ => True) (.slice Av (bytesT x).length cv) (bytesT x) ∧ Below W.heap.size W w') :=
    Lib.hid (fun hb hk W A5 c5 A6 c6 h5 l5 h6 l6 => by
      obtain ⟨h1, hg, h2, _⟩ := hgood hb hk
      obtain ⟨k', hk'⟩ := bytes_ex x hg (by omega)
      refine (spec_Bytes.calls k' _ _ _ _ _ _ _ _ _ _ W h5 l5 h6 l6 hk').mono ?_
      rintro e w' ⟨v, he, hR, hB⟩
      obtain ⟨Av, cv, hv⟩ := Kd.R_slice hR
      subst hv
      exact ⟨Av, cv, he, hR, hB⟩)
  have HXM := Lib.hid hgood
  have HIN := Lib.hid hin
  have HEO := Lib.hid hE
  clear hz hx hfit hkep hgood h3 h4 hln l3 l4 hin hE
  have HBH := Lib.hid hb
  have HBR := Lib.hid hbr
  obtain ⟨n9, hn9⟩ : ∃ n9, n9 = bh.length := ⟨_, rfl⟩
  have hmax : n9 ≤ 9223372036854775807 := by rw [hn9]; exact Kd.C_max hb
  have hn1 : (n9 : Int) ≤ 9223372036854775807 := by omega
  have hn0 : 0 ≤ (n9 : Int) := by omega
  rw [← hn9] at lb
  have HN9 := Lib.hid hn9
  clear hb hbr hmax lb
  rw [← hn9]
  clear hn9
  by_cases hall : r = true ∧ n9 ≤ 2147483647 ∧ b = true ∧ kb = true ∧ n9 ≤ 100
  rotate_left
  · have e1 : r = false ∨ (r = true ∧ decide (2147483647 < (n9 : Int)) = true) ∨ (r = true ∧ decide (2147483647 < (n9 : Int)) = false ∧ b = false) ∨ (r = true ∧ decide (2147483647 < (n9 : Int)) = false ∧ b = true ∧ kb = false) ∨ (r = true ∧ decide (2147483647 < (n9 : Int)) = false ∧ b = true ∧ kb = true ∧ decide (100 < (n9 : Int)) = true) := by
      cases r
      · exact .inl rfl
      · by_cases h1 : n9 ≤ 2147483647
        · have q : decide (2147483647 < (n9 : Int)) = false := decide_eq_false (by omega)
          cases b
          · exact .inr (.inr (.inl ⟨rfl, q, rfl⟩))
          · cases kb
            · exact .inr (.inr (.inr (.inl ⟨rfl, q, rfl, rfl⟩)))
            · refine .inr (.inr (.inr (.inr ⟨rfl, q, rfl, rfl, decide_eq_true ?_⟩)))
              have : ¬ n9 ≤ 100 := fun h => hall ⟨rfl, h1, rfl, rfl, h⟩
              omega
        · exact .inr (.inl ⟨rfl, decide_eq_true (by omega)⟩)
    clear hall
    rcases e1 with rfl | ⟨rfl, q1⟩ | ⟨rfl, q1, rfl⟩ | ⟨rfl, q1, rfl, rfl⟩ | ⟨rfl, q1, rfl, rfl, q2⟩
    all_goals try replace HKT := Lib.hid (HKT.out rfl)
    all_goals clear HSB HXM
    all_goals go_enter Tryd.func3, Tryd.ntmps3
    all_goals go_wp2_with (first
      | (go_at_call 6
         obtain ⟨W0, hW0⟩ : ∃ W0, W0 = w.alloc (.cells #[.int .i64 p.f0, .int .i64 p.f1, .bool p.f2, .slice A3 p.f3.length c3, .slice A4 p.f4.length c4] 25) := ⟨_, rfl⟩
         rw [← hW0]
         have hb0 : Below w.heap.size w W0 := by rw [hW0]; exact below_alloc (Below.refl _ _) _
         have hx0 : W0.heap[w.heap.size]? = some (.cells #[.int .i64 p.f0, .int .i64 p.f1, .bool p.f2, .slice A3 p.f3.length c3, .slice A4 p.f4.length c4] 25 (0, 0)) := by rw [hW0]; exact blk_new _ _
         clear hW0
         refine (HZ.out W0 hb0).mono ?_
         rintro e W1 ⟨rfl, hB1⟩
         have HB1 := Lib.hid (hb0.trans (hB1.mono hb0.size))
         have HX1 := Lib.hid (blk_below hx0 hB1)
         have b0 : W1.cell? ⟨w.heap.size, 0, none⟩ = some (.int .i64 p.f0) := blk_cell HX1.out 0
         have b1 : W1.cell? ⟨w.heap.size, 1, none⟩ = some (.int .i64 p.f1) := blk_cell HX1.out 1
         have b2 : W1.cell? ⟨w.heap.size, 2, none⟩ = some (.bool p.f2) := blk_cell HX1.out 2
         have b3 : W1.cell? ⟨w.heap.size, 3, none⟩ = some (.slice A3 p.f3.length c3) := blk_cell HX1.out 3
         have b4 : W1.cell? ⟨w.heap.size, 4, none⟩ = some (.slice A4 p.f4.length c4) := blk_cell HX1.out 4
         clear hb0 hx0 hB1)
      | (go_at_call 7
         refine (HP.out W1 HB1.out).mono ?_
         rintro e W3 ⟨A5, c5, A6, c6, rfl, l5, h5, l6, h6, hB3⟩
         have HC3 : Hid ((Kd.int .u8).C W3 A5 x.f3.length x.f3 ∧ x.f3.length ≤ c5 ∧ k29.C W3 A6 x.f4.length x.f4 ∧ x.f4.length ≤ c6) := Lib.hid ⟨h5, l5, h6, l6⟩
         have HB3 := Lib.hid (HB1.out.trans (hB3.mono HB1.out.size))
         clear hB3 h5 l5 h6 l6 b0 b1 b2 b3 b4)
      | (go_at_call 8
         obtain ⟨W4, hW4⟩ : ∃ W4, W4 = W3.alloc (.cells #[.int .i64 x.f0, .int .i64 x.f1, .bool x.f2, .slice A5 x.f3.length c5, .slice A6 x.f4.length c6] 29) := ⟨_, rfl⟩
         rw [← hW4]
         have hb4 : Below W3.heap.size W3 W4 := by rw [hW4]; exact below_alloc (Below.refl _ _) _
         have hx4 : W4.heap[W3.heap.size]? = some (.cells #[.int .i64 x.f0, .int .i64 x.f1, .bool x.f2, .slice A5 x.f3.length c5, .slice A6 x.f4.length c6] 29 (0, 0)) := by rw [hW4]; exact blk_new _ _
         clear hW4
         refine (HFT.out W4 A5 c5 A6 c6 (Kd.C_below HC3.out.1 hb4) HC3.out.2.1 (Kd.C_below HC3.out.2.2.1 hb4) HC3.out.2.2.2).mono ?_
         rintro e W5 ⟨rfl, hB5⟩
         have hb5 : Below W3.heap.size W3 W5 := hb4.trans (hB5.mono hb4.size)
         have HC5 : Hid ((Kd.int .u8).C W5 A5 x.f3.length x.f3 ∧ x.f3.length ≤ c5 ∧ k29.C W5 A6 x.f4.length x.f4 ∧ x.f4.length ≤ c6) := Lib.hid ⟨Kd.C_below HC3.out.1 hb5, HC3.out.2.1, Kd.C_below HC3.out.2.2.1 hb5, HC3.out.2.2.2⟩
         have HB5 := Lib.hid (HB3.out.trans (hb5.mono HB3.out.size))
         have HY5 := Lib.hid (blk_below hx4 hB5)
         have d0 : W5.cell? ⟨W3.heap.size, 0, none⟩ = some (.int .i64 x.f0) := blk_cell HY5.out 0
         have d1 : W5.cell? ⟨W3.heap.size, 1, none⟩ = some (.int .i64 x.f1) := blk_cell HY5.out 1
         have d2 : W5.cell? ⟨W3.heap.size, 2, none⟩ = some (.bool x.f2) := blk_cell HY5.out 2
         have d3 : W5.cell? ⟨W3.heap.size, 3, none⟩ = some (.slice A5 x.f3.length c5) := blk_cell HY5.out 3
         have d4 : W5.cell? ⟨W3.heap.size, 4, none⟩ = some (.slice A6 x.f4.length c6) := blk_cell HY5.out 4
         clear hb4 hx4 hB5 hb5 HC3)
      | (go_at_call 9
         refine (HKT.out W5 A5 c5 A6 c6 HC5.out.1 HC5.out.2.1 HC5.out.2.2.1 HC5.out.2.2.2).mono ?_
         rintro e W6 ⟨rfl, hB6⟩
         have HC6 : Hid ((Kd.int .u8).C W6 A5 x.f3.length x.f3 ∧ x.f3.length ≤ c5 ∧ k29.C W6 A6 x.f4.length x.f4 ∧ x.f4.length ≤ c6) := Lib.hid ⟨Kd.C_below HC5.out.1 hB6, HC5.out.2.1, Kd.C_below HC5.out.2.2.1 hB6, HC5.out.2.2.2⟩
         have HB6 := Lib.hid (HB5.out.trans (hB6.mono HB5.out.size))
         have HY6 := Lib.hid (blk_below HY5.out hB6)
         have f0 : W6.cell? ⟨W3.heap.size, 0, none⟩ = some (.int .i64 x.f0) := blk_cell HY6.out 0
         have f1 : W6.cell? ⟨W3.heap.size, 1, none⟩ = some (.int .i64 x.f1) := blk_cell HY6.out 1
         have f2 : W6.cell? ⟨W3.heap.size, 2, none⟩ = some (.bool x.f2) := blk_cell HY6.out 2
         have f3 : W6.cell? ⟨W3.heap.size, 3, none⟩ = some (.slice A5 x.f3.length c5) := blk_cell HY6.out 3
         have f4 : W6.cell? ⟨W3.heap.size, 4, none⟩ = some (.slice A6 x.f4.length c6) := blk_cell HY6.out 4
         clear hB6 d0 d1 d2 d3 d4)
      | (go_at_call 10
         refine (works_any _).mono ?_
         rintro e W9 ⟨rfl, hB9⟩
         have HB9 := Lib.hid hB9
         clear hB9))
    all_goals go_ret
    all_goals first
      | exact ⟨rfl, HB6.out.trans (HB9.out.mono HB6.out.size)⟩
      | exact ⟨rfl, HB5.out.trans (HB9.out.mono HB5.out.size)⟩
      | exact ⟨rfl, HB1.out⟩
  obtain ⟨rfl, hs1, rfl, rfl, hs2⟩ := hall
  obtain ⟨hxm, hgd, hts, htd, hkp⟩ := HXM.out rfl rfl
  replace HKT := Lib.hid (HKT.out rfl)
  replace HSB := Lib.hid (HSB.out rfl rfl)
  clear HXM
  have q1 : decide (2147483647 < (n9 : Int)) = false := decide_eq_false (by omega)
  have q2 : decide (100 < (n9 : Int)) = false := decide_eq_false (by omega)
  obtain ⟨hpar, hbin, hbl⟩ := par_all p x hxm hgd hts HIN.out
  have hmr := mir_rd x hgd
  obtain ⟨y, hy⟩ : ∃ y, y = trOf (rdPk x) := ⟨_, rfl⟩
  rw [← hy] at hmr
  have HBD : Hid ((bytesT x).length ≤ 70000 ∧ n9 ≤ 100) := Lib.hid ⟨hbl, hs2⟩
  have HDE : Hid (∀ (W : World) (Av : Option Addr) (cv : Nat), Below w.heap.size w W → B8.R 5 W w.heap.size (fun _ => True) (.slice Av (bytesT x ++ bh).length cv) (bytesT x ++ bh) → Calls Tryd.prog 11 #[.slice Av (bytesT x ++ bh).length cv] W fun e w' => ∃ B3 e3 B4 e4, e = .returned (.tuple #[.agg #[.int .i64 y.f0, .int .i64 y.f1, .bool y.f2, .slice B3 y.f3.length e3, .slice B4 y.f4.length e4], .int .i64 (n9 : Int), .bool true]) ∧ (y.f3.length ≤ e3 ∧ B8.C w' B3 y.f3.length y.f3 ∧ y.f4.length ≤ e4 ∧ k25.C w' B4 y.f4.length y.f4) ∧ Below W.heap.size W w') := Lib.hid (fun W Av cv hb hR => by
    obtain ⟨A', c', hv, _, hC⟩ := Kd.R_reads hR
    injection hv with e1 _ e2
    subst e1 e2
    have hD := decode_any x (by omega) hkp hgd (by omega) va ua Av cv (bytesT x ++ bh) [] (bytesT x).length W (HEO.out.keep (S := fun _ => True) HEO.out.lt hb.block) hC (by rw [List.append_nil]; exact hpar.app bh) (by
        rw [List.append_nil]
        intro z hz
        rcases List.mem_append.1 hz with h | h
        · exact hbin z h
        · exact HBR.out z h) (by rw [List.append_nil, List.length_append, ← HN9.out]; omega)
    refine hD.mono ?_
    rintro e w' ⟨h1, _, hB⟩
    obtain ⟨B3, e3, B4, e4, he, m3, g3, m4, g4⟩ := h1 (by rw [List.length_append]; omega)
    have hl : (bytesT x ++ bh).length - (bytesT x).length = n9 := by rw [List.length_append, ← HN9.out]; omega
    rw [hl, ← hy] at he
    rw [← hy] at m3 g3 m4 g4
    exact ⟨B3, e3, B4, e4, he, ⟨m3, g3, m4, g4⟩, hB⟩)
  have hwi : (wi 60 y 200000).1 = x := by rw [wi_fit 60 y 200000 (by rw [hmr]; omega) (by rw [hmr]; omega), hmr]
  have hly : lens y = true := lens_of y (by rw [hmr]; omega)
  have HAN : Hid (∀ B3 e3 B4 e4 (W : World), (y.f3.length ≤ e3 ∧ B8.C W B3 y.f3.length y.f3 ∧ y.f4.length ≤ e4 ∧ k25.C W B4 y.f4.length y.f4) → Calls Tryd.prog 14 #[.agg #[.int .i64 y.f0, .int .i64 y.f1, .bool y.f2, .slice B3 y.f3.length e3, .slice B4 y.f4.length e4]] W (Got W x)) := Lib.hid (fun B3 e3 B4 e4 W h => by
    have := answer_any y B3 e3 B4 e4 W h.2.1 h.1 h.2.2.2 h.2.2.1 hly
    rwa [hwi] at this)
  obtain ⟨dt, hdt⟩ : ∃ dt, dt = bytesT x ++ bh := ⟨_, rfl⟩
  rw [← hdt] at HDE
  have HDT := Lib.hid hdt
  clear hdt
  obtain ⟨ks, hks⟩ := same_eq x (by omega)
  have HSA : Hid (∀ (W : World) G3 h3 G4 h4 A5 c5 A6 c6, (x.f3.length ≤ h3 ∧ (Kd.int .u8).C W G3 x.f3.length x.f3 ∧ x.f4.length ≤ h4 ∧ k29.C W G4 x.f4.length x.f4) → ((Kd.int .u8).C W A5 x.f3.length x.f3 ∧ x.f3.length ≤ c5 ∧ k29.C W A6 x.f4.length x.f4 ∧ x.f4.length ≤ c6) → Calls Tryd.prog 13 #[.agg #[.int .i64 x.f0, .int .i64 x.f1, .bool x.f2, .slice G3 x.f3.length h3, .slice G4 x.f4.length h4], .agg #[.int .i64 x.f0, .int .i64 x.f1, .bool x.f2, .slice A5 x.f3.length c5, .slice A6 x.f4.length c6]] W fun e w' => e = .returned (.bool true) ∧ Below W.heap.size W w') := Lib.hid (fun W G3 h3 G4 h4 A5 c5 A6 c6 h1 h2 =>
    spec_Same.calls ks _ _ _ _ _ _ _ _ _ _ _ _ _ _ _ _ _ _ true W h1.2.1 h1.1 h1.2.2.2 h1.2.2.1 h2.1 h2.2.1 h2.2.2.1 h2.2.2.2 hks)
  clear hxm hgd hts htd hkp hpar hbin hbl hmr hy hwi hly hks hs1 hs2
  go_enter Tryd.func3, Tryd.ntmps3
  go_upto_region 7 with (first
    | (go_at_call 6
       obtain ⟨W0, hW0⟩ : ∃ W0, W0 = w.alloc (.cells #[.int .i64 p.f0, .int .i64 p.f1, .bool p.f2, .slice A3 p.f3.length c3, .slice A4 p.f4.length c4] 25) := ⟨_, rfl⟩
       rw [← hW0]
       have hb0 : Below w.heap.size w W0 := by rw [hW0]; exact below_alloc (Below.refl _ _) _
       have hx0 : W0.heap[w.heap.size]? = some (.cells #[.int .i64 p.f0, .int .i64 p.f1, .bool p.f2, .slice A3 p.f3.length c3, .slice A4 p.f4.length c4] 25 (0, 0)) := by rw [hW0]; exact blk_new _ _
       clear hW0
       refine (HZ.out W0 hb0).mono ?_
       rintro e W1 ⟨rfl, hB1⟩
       have HB1 := Lib.hid (hb0.trans (hB1.mono hb0.size))
       have HX1 := Lib.hid (blk_below hx0 hB1)
       have b0 : W1.cell? ⟨w.heap.size, 0, none⟩ = some (.int .i64 p.f0) := blk_cell HX1.out 0
       have b1 : W1.cell? ⟨w.heap.size, 1, none⟩ = some (.int .i64 p.f1) := blk_cell HX1.out 1
       have b2 : W1.cell? ⟨w.heap.size, 2, none⟩ = some (.bool p.f2) := blk_cell HX1.out 2
       have b3 : W1.cell? ⟨w.heap.size, 3, none⟩ = some (.slice A3 p.f3.length c3) := blk_cell HX1.out 3
       have b4 : W1.cell? ⟨w.heap.size, 4, none⟩ = some (.slice A4 p.f4.length c4) := blk_cell HX1.out 4
       clear hb0 hx0 hB1)
    | (go_at_call 7
       refine (HP.out W1 HB1.out).mono ?_
       rintro e W3 ⟨A5, c5, A6, c6, rfl, l5, h5, l6, h6, hB3⟩
       have HC3 : Hid ((Kd.int .u8).C W3 A5 x.f3.length x.f3 ∧ x.f3.length ≤ c5 ∧ k29.C W3 A6 x.f4.length x.f4 ∧ x.f4.length ≤ c6) := Lib.hid ⟨h5, l5, h6, l6⟩
       have HB3 := Lib.hid (HB1.out.trans (hB3.mono HB1.out.size))
       clear hB3 h5 l5 h6 l6 b0 b1 b2 b3 b4)
    | (go_at_call 8
       obtain ⟨W4, hW4⟩ : ∃ W4, W4 = W3.alloc (.cells #[.int .i64 x.f0, .int .i64 x.f1, .bool x.f2, .slice A5 x.f3.length c5, .slice A6 x.f4.length c6] 29) := ⟨_, rfl⟩
       rw [← hW4]
       have hb4 : Below W3.heap.size W3 W4 := by rw [hW4]; exact below_alloc (Below.refl _ _) _
       have hx4 : W4.heap[W3.heap.size]? = some (.cells #[.int .i64 x.f0, .int .i64 x.f1, .bool x.f2, .slice A5 x.f3.length c5, .slice A6 x.f4.length c6] 29 (0, 0)) := by rw [hW4]; exact blk_new _ _
       clear hW4
       refine (HFT.out W4 A5 c5 A6 c6 (Kd.C_below HC3.out.1 hb4) HC3.out.2.1 (Kd.C_below HC3.out.2.2.1 hb4) HC3.out.2.2.2).mono ?_
       rintro e W5 ⟨rfl, hB5⟩
       have hb5 : Below W3.heap.size W3 W5 := hb4.trans (hB5.mono hb4.size)
       have HC5 : Hid ((Kd.int .u8).C W5 A5 x.f3.length x.f3 ∧ x.f3.length ≤ c5 ∧ k29.C W5 A6 x.f4.length x.f4 ∧ x.f4.length ≤ c6) := Lib.hid ⟨Kd.C_below HC3.out.1 hb5, HC3.out.2.1, Kd.C_below HC3.out.2.2.1 hb5, HC3.out.2.2.2⟩
       have HB5 := Lib.hid (HB3.out.trans (hb5.mono HB3.out.size))
       have HY5 := Lib.hid (blk_below hx4 hB5)
       have d0 : W5.cell? ⟨W3.heap.size, 0, none⟩ = some (.int .i64 x.f0) := blk_cell HY5.out 0
       have d1 : W5.cell? ⟨W3.heap.size, 1, none⟩ = some (.int .i64 x.f1) := blk_cell HY5.out 1
       have d2 : W5.cell? ⟨W3.heap.size, 2, none⟩ = some (.bool x.f2) := blk_cell HY5.out 2
       have d3 : W5.cell? ⟨W3.heap.size, 3, none⟩ = some (.slice A5 x.f3.length c5) := blk_cell HY5.out 3
       have d4 : W5.cell? ⟨W3.heap.size, 4, none⟩ = some (.slice A6 x.f4.length c6) := blk_cell HY5.out 4
       clear hb4 hx4 hB5 hb5 HC3)
    | (go_at_call 9
       refine (HKT.out W5 A5 c5 A6 c6 HC5.out.1 HC5.out.2.1 HC5.out.2.2.1 HC5.out.2.2.2).mono ?_
       rintro e W6 ⟨rfl, hB6⟩
       have HC6 : Hid ((Kd.int .u8).C W6 A5 x.f3.length x.f3 ∧ x.f3.length ≤ c5 ∧ k29.C W6 A6 x.f4.length x.f4 ∧ x.f4.length ≤ c6) := Lib.hid ⟨Kd.C_below HC5.out.1 hB6, HC5.out.2.1, Kd.C_below HC5.out.2.2.1 hB6, HC5.out.2.2.2⟩
       have HB6 := Lib.hid (HB5.out.trans (hB6.mono HB5.out.size))
       have HY6 := Lib.hid (blk_below HY5.out hB6)
       have f0 : W6.cell? ⟨W3.heap.size, 0, none⟩ = some (.int .i64 x.f0) := blk_cell HY6.out 0
       have f1 : W6.cell? ⟨W3.heap.size, 1, none⟩ = some (.int .i64 x.f1) := blk_cell HY6.out 1
       have f2 : W6.cell? ⟨W3.heap.size, 2, none⟩ = some (.bool x.f2) := blk_cell HY6.out 2
       have f3 : W6.cell? ⟨W3.heap.size, 3, none⟩ = some (.slice A5 x.f3.length c5) := blk_cell HY6.out 3
       have f4 : W6.cell? ⟨W3.heap.size, 4, none⟩ = some (.slice A6 x.f4.length c6) := blk_cell HY6.out 4
       clear hB6 d0 d1 d2 d3 d4)
    | (go_at_call 12
       refine (HSB.out W6 A5 c5 A6 c6 HC6.out.1 HC6.out.2.1 HC6.out.2.2.1 HC6.out.2.2.2).mono ?_
       rintro e W7 ⟨Av, cv, rfl, hR7, hB7⟩
       have HR7 := Lib.hid hR7
       have HB67 := Lib.hid hB7
       have HC7 : Hid ((Kd.int .u8).C W7 A5 x.f3.length x.f3 ∧ x.f3.length ≤ c5 ∧ k29.C W7 A6 x.f4.length x.f4 ∧ x.f4.length ≤ c6) := Lib.hid ⟨Kd.C_below HC6.out.1 hB7, HC6.out.2.1, Kd.C_below HC6.out.2.2.1 hB7, HC6.out.2.2.2⟩
       have HB7 := Lib.hid (HB6.out.trans (hB7.mono HB6.out.size))
       have HY7 := Lib.hid (blk_below HY6.out hB7)
       clear hB7 hR7 f0 f1 f2 f3 f4)
    | ((with_reducible refine gate_builtin (b := .append) (xs := #[.tmp 35, .tmp 36]) rfl ?_)
       at_builtin
       refine Kd.R_append_row (Value.int .u8) (0 : Int) (w0 := W7) (W := W7) W6.heap.size rfl (.tmp 35) (.tmp 36) 22 5 (.int .u8 0) 1 rfl Tryd.underlying22 info_u8 rfl (by decide) _ (bytesT x) bh Ab n9 cb (fun _ => True) rfl rfl (fun _ _ => trivial) HR7.out (by rw [HN9.out]; exact Kd.C_below HBH.out HB7.out) (Below.refl _ _) HB67.out.size (by have h1 := HBD.out; omega) ?_
       intro v8 W8 hR8 hb8 hg8 hat8
       rw [← HDT.out] at hR8
       obtain ⟨A8, c8, hv8⟩ := Kd.R_slice hR8
       subst hv8
       have hb68 := HB67.out.trans hb8
       have HR8 : Hid (B8.R 5 W8 w.heap.size (fun _ => True) (.slice A8 dt.length c8) dt) := Lib.hid (Kd.R_lower hR8 HB6.out.size)
       have HB8 := Lib.hid (HB6.out.trans (hb68.mono HB6.out.size))
       have HY8 := Lib.hid (blk_below HY6.out hb68)
       have HC8 : Hid ((Kd.int .u8).C W8 A5 x.f3.length x.f3 ∧ x.f3.length ≤ c5 ∧ k29.C W8 A6 x.f4.length x.f4 ∧ x.f4.length ≤ c6) := Lib.hid ⟨Kd.C_below HC6.out.1 hb68, HC6.out.2.1, Kd.C_below HC6.out.2.2.1 hb68, HC6.out.2.2.2⟩
       clear hR8 hb8 hg8 hat8 hb68)
    | (go_at_call 11
       with_reducible refine (HDE.out W8 A8 c8 HB8.out HR8.out).mono ?_
       rintro e W10 ⟨B3, e3, B4, e4, rfl, hg, hB10⟩
       have HG10 := Lib.hid hg
       have HB10 := Lib.hid (HB8.out.trans (hB10.mono HB8.out.size))
       have HY10 := Lib.hid (blk_below HY8.out hB10)
       have HC10 : Hid ((Kd.int .u8).C W10 A5 x.f3.length x.f3 ∧ x.f3.length ≤ c5 ∧ k29.C W10 A6 x.f4.length x.f4 ∧ x.f4.length ≤ c6) := Lib.hid ⟨Kd.C_below HC8.out.1 hB10, HC8.out.2.1, Kd.C_below HC8.out.2.2.1 hB10, HC8.out.2.2.2⟩
       clear hg hB10))
  obtain ⟨W11, hW11⟩ : ∃ W11, W11 = W10.alloc (.cells #[.int .i64 y.f0, .int .i64 y.f1, .bool y.f2, .slice B3 y.f3.length e3, .slice B4 y.f4.length e4] 25) := ⟨_, rfl⟩
  rw [← hW11]
  have hb11 : Below W10.heap.size W10 W11 := by rw [hW11]; exact below_alloc (Below.refl _ _) _
  obtain ⟨g6, hg6⟩ : ∃ g6, g6 = W10.heap.size := ⟨_, rfl⟩
  obtain ⟨g5, hg5⟩ : ∃ g5, g5 = W3.heap.size := ⟨_, rfl⟩
  have HUV : Hid (W11.drew.heap[g6]? = some (.cells #[.int .i64 y.f0, .int .i64 y.f1, .bool y.f2, .slice B3 y.f3.length e3, .slice B4 y.f4.length e4] 25 (0, 0))) := Lib.hid (by rw [hg6]; show W11.heap[W10.heap.size]? = _; rw [hW11]; exact blk_new _ _)
  have HYV : Hid (W11.drew.heap[g5]? = some (.cells #[.int .i64 x.f0, .int .i64 x.f1, .bool x.f2, .slice A5 x.f3.length c5, .slice A6 x.f4.length c6] 29 (0, 0))) := Lib.hid (by rw [hg5]; show W11.heap[W3.heap.size]? = _; exact blk_below HY10.out hb11)
  have HBV : Hid (Below w.heap.size w W11.drew) := Lib.hid ((HB10.out.trans (hb11.mono HB10.out.size)).drew)
  have HXV : Hid ((Kd.int .u8).C W11.drew A5 x.f3.length x.f3 ∧ x.f3.length ≤ c5 ∧ k29.C W11.drew A6 x.f4.length x.f4 ∧ x.f4.length ≤ c6) := Lib.hid ⟨Kd.C_drew (Kd.C_below HC10.out.1 hb11), HC10.out.2.1, Kd.C_drew (Kd.C_below HC10.out.2.2.1 hb11), HC10.out.2.2.2⟩
  have HCV : Hid (y.f3.length ≤ e3 ∧ B8.C W11.drew B3 y.f3.length y.f3 ∧ y.f4.length ≤ e4 ∧ k25.C W11.drew B4 y.f4.length y.f4) := Lib.hid ⟨HG10.out.1, Kd.C_drew (Kd.C_below HG10.out.2.1 hb11), HG10.out.2.2.1, Kd.C_drew (Kd.C_below HG10.out.2.2.2 hb11)⟩
  rw [← hg6, ← hg5]
  clear hW11 hb11 hg6 hg5 HB1 HX1 HB3 HC5 HB5 HY5 HC6 HB6 HY6 HR7 HB67 HC7 HB7 HY7 HR8 HB8 HY8 HC8 HG10 HB10 HY10 HC10 HDE HZ HP HFT HKT HSB
  refine start_ (n := 17) (S := fun w' => w'.cell? ⟨g6, 0, none⟩ = some (.int .i64 y.f0) ∧ w'.cell? ⟨g6, 1, none⟩ = some (.int .i64 y.f1) ∧ w'.cell? ⟨g6, 2, none⟩ = some (.bool y.f2) ∧ w'.cell? ⟨g6, 3, none⟩ = some (.slice B3 y.f3.length e3) ∧ w'.cell? ⟨g6, 4, none⟩ = some (.slice B4 y.f4.length e4) ∧ w'.cell? ⟨g5, 0, none⟩ = some (.int .i64 x.f0) ∧ w'.cell? ⟨g5, 1, none⟩ = some (.int .i64 x.f1) ∧ w'.cell? ⟨g5, 2, none⟩ = some (.bool x.f2) ∧ w'.cell? ⟨g5, 3, none⟩ = some (.slice A5 x.f3.length c5) ∧ w'.cell? ⟨g5, 4, none⟩ = some (.slice A6 x.f4.length c6)) (ds := []) #[nN,nN,nN,nN,nN,nN,nN,nN,nN,nN,nN,nN,nN,nN,nN,nN,nN] (by kernel_rfl) rfl rfl ⟨blk_cell (HUV.out) 0, blk_cell (HUV.out) 1, blk_cell (HUV.out) 2, blk_cell (HUV.out) 3, blk_cell (HUV.out) 4, blk_cell (HYV.out) 0, blk_cell (HYV.out) 1, blk_cell (HYV.out) 2, blk_cell (HYV.out) 3, blk_cell (HYV.out) 4⟩ (fun hHeld => ?_)
  obtain ⟨V, hV⟩ : ∃ X, X = W11.drew := ⟨_, rfl⟩
  rw [← hV] at HUV HYV HXV HCV HBV hHeld ⊢
  clear hV
  refine pure_ (i := 0) (N := some 42) (v := ?_) (a' := ?_) #[yY,nN,nN,nN,nN,nN,nN,nN,nN,nN,nN,nN,nN,nN,nN,nN,nN] rfl rfl (by kernel_rfl) (fun _ _ _ h => h) (Or.inl ⟨by rfl, ?_⟩) ?_ ?_
  rotate_left
  · intro w'
    go_simp
    with_reducible rfl
  rotate_left
  · simp only [Act.put, List.setIfInBounds_toArray, List.set_cons_zero, List.set_cons_succ, i64_w, i32_w]
    rfl
  refine pure_ (i := 1) (N := some 43) (v := ?_) (a' := ?_) #[yY,yY,nN,nN,nN,nN,nN,nN,nN,nN,nN,nN,nN,nN,nN,nN,nN] rfl rfl (by kernel_rfl) (fun _ _ _ h => h) (Or.inl ⟨by rfl, ?_⟩) ?_ ?_
  rotate_left
  · intro w'
    go_simp
    with_reducible rfl
  rotate_left
  · simp only [Act.put, List.setIfInBounds_toArray, List.set_cons_zero, List.set_cons_succ, i64_w, i32_w]
    rfl
  refine pure_ (i := 2) (N := some 44) (v := ?_) (a' := ?_) #[yY,yY,yY,nN,nN,nN,nN,nN,nN,nN,nN,nN,nN,nN,nN,nN,nN] rfl rfl (by kernel_rfl) (fun _ _ _ h => h) (Or.inl ⟨by rfl, ?_⟩) ?_ ?_
  rotate_left
  · intro w'
    go_simp
    with_reducible rfl
  rotate_left
  · simp only [Act.put, List.setIfInBounds_toArray, List.set_cons_zero, List.set_cons_succ, i64_w, i32_w]
    rfl
  refine pure_ (i := 3) (N := some 45) (v := ?_) (a' := ?_) #[yY,yY,yY,yY,nN,nN,nN,nN,nN,nN,nN,nN,nN,nN,nN,nN,nN] rfl rfl (by kernel_rfl) (fun _ _ _ h => h) (Or.inl ⟨by rfl, ?_⟩) ?_ ?_
  rotate_left
  · intro w'
    go_simp
    with_reducible rfl
  rotate_left
  · simp only [Act.put, List.setIfInBounds_toArray, List.set_cons_zero, List.set_cons_succ, i64_w, i32_w]
    rfl
  refine pure_ (i := 4) (N := some 46) (v := ?_) (a' := ?_) #[yY,yY,yY,yY,yY,nN,nN,nN,nN,nN,nN,nN,nN,nN,nN,nN,nN] rfl rfl (by kernel_rfl) (fun _ _ _ h => h) (Or.inl ⟨by rfl, ?_⟩) ?_ ?_
  rotate_left
  · intro w'
    go_simp
    with_reducible rfl
  rotate_left
  · simp only [Act.put, List.setIfInBounds_toArray, List.set_cons_zero, List.set_cons_succ, i64_w, i32_w]
    rfl
  refine pure_ (i := 5) (N := some 47) (v := ?_) (a' := ?_) #[yY,yY,yY,yY,yY,yY,nN,nN,nN,nN,nN,nN,nN,nN,nN,nN,nN] rfl rfl (by kernel_rfl) (fun _ _ _ h => h) (Or.inl ⟨by rfl, ?_⟩) ?_ ?_
  rotate_left
  · intro w'
    go_simp
    with_reducible rfl
  rotate_left
  · simp only [Act.put, List.setIfInBounds_toArray, List.set_cons_zero, List.set_cons_succ, i64_w, i32_w]
    rfl
  refine pure_ (i := 6) (N := some 48) (v := ?_) (a' := ?_) #[yY,yY,yY,yY,yY,yY,yY,nN,nN,nN,nN,nN,nN,nN,nN,nN,nN] rfl rfl (by kernel_rfl) (fun _ _ _ h => h) (Or.inl ⟨by rfl, ?_⟩) ?_ ?_
  rotate_left
  · intro w'
    go_simp
    with_reducible rfl
  rotate_left
  · simp only [Act.put, List.setIfInBounds_toArray, List.set_cons_zero, List.set_cons_succ, i64_w, i32_w]
    rfl
  refine pure_ (i := 7) (N := some 49) (v := ?_) (a' := ?_) #[yY,yY,yY,yY,yY,yY,yY,yY,nN,nN,nN,nN,nN,nN,nN,nN,nN] rfl rfl (by kernel_rfl) (fun _ _ _ h => h) (Or.inl ⟨by rfl, ?_⟩) ?_ ?_
  rotate_left
  · intro w'
    go_simp
    with_reducible rfl
  rotate_left
  · simp only [Act.put, List.setIfInBounds_toArray, List.set_cons_zero, List.set_cons_succ, i64_w, i32_w]
    rfl
  refine take_ (i := 8) (N := some 50) (v := ?_) (a' := ?_) #[yY,yY,yY,yY,yY,yY,yY,yY,yY,nN,nN,nN,nN,nN,nN,nN,nN] rfl rfl (by kernel_rfl) (fun _ _ _ h => h) (Or.inl ⟨by rfl, ?_⟩) hHeld ?_ ?_
  rotate_left
  · rintro w' ⟨s0, s1, s2, s3, s4, s5, s6, s7, s8, s9⟩
    go_simp
    with_reducible rfl
  rotate_left
  · simp only [Act.put, List.setIfInBounds_toArray, List.set_cons_zero, List.set_cons_succ, i64_w, i32_w]
    rfl
  refine take_ (i := 10) (N := some 52) (v := ?_) (a' := ?_) #[yY,yY,yY,yY,yY,yY,yY,yY,yY,nN,yY,nN,nN,nN,nN,nN,nN] rfl rfl (by kernel_rfl) (fun _ _ _ h => h) (Or.inl ⟨by rfl, ?_⟩) hHeld ?_ ?_
  rotate_left
  · rintro w' ⟨s0, s1, s2, s3, s4, s5, s6, s7, s8, s9⟩
    go_simp
    with_reducible rfl
  rotate_left
  · simp only [Act.put, List.setIfInBounds_toArray, List.set_cons_zero, List.set_cons_succ, i64_w, i32_w]
    rfl
  refine one_ (i := 9) (N := some 51) #[yY,yY,yY,yY,yY,yY,yY,yY,yY,yY,yY,nN,nN,nN,nN,nN,nN] rfl rfl (by kernel_rfl) (by decide) (fun K hK => ?_)
  refine goes_ Tryd.func14 (by kernel_rfl) rfl #[.agg #[.int .i64 y.f0, .int .i64 y.f1, .bool y.f2, .slice B3 y.f3.length e3, .slice B4 y.f4.length e4]] (by rfl) rfl rfl (by simp only [List.map_toArray, List.map_cons, List.map_nil]; rfl) ?_
  with_reducible refine (HAN.out B3 e3 B4 e4 V HCV.out).mono ?_
  rintro e V1 ⟨G3, h3, G4, h4, rfl, n3, q3, n4, q4, hB11⟩
  refine ⟨_, rfl, ?_⟩
  have HB11 := Lib.hid (HBV.out.trans (hB11.mono HBV.out.size))
  have HU11 := Lib.hid (blk_below HUV.out hB11)
  have HY11 := Lib.hid (blk_below HYV.out hB11)
  have HC11 : Hid ((Kd.int .u8).C V1 A5 x.f3.length x.f3 ∧ x.f3.length ≤ c5 ∧ k29.C V1 A6 x.f4.length x.f4 ∧ x.f4.length ≤ c6) := Lib.hid ⟨Kd.C_below HXV.out.1 hB11, HXV.out.2.1, Kd.C_below HXV.out.2.2.1 hB11, HXV.out.2.2.2⟩
  have HG11 := Lib.hid (And.intro n3 (And.intro q3 (And.intro n4 q4)))
  clear n3 q3 n4 q4 hB11
  refine hK.out _ _ ⟨blk_cell (HU11.out) 0, blk_cell (HU11.out) 1, blk_cell (HU11.out) 2, blk_cell (HU11.out) 3, blk_cell (HU11.out) 4, blk_cell (HY11.out) 0, blk_cell (HY11.out) 1, blk_cell (HY11.out) 2, blk_cell (HY11.out) 3, blk_cell (HY11.out) 4⟩ (fun hHeld => ?_)
  clear hK K
  refine norm_ (a' := ?_) ?_ ?_
  rotate_left
  · show Act.put _ (some 51) _ = _
    simp only [Act.put, List.setIfInBounds_toArray, List.set_cons_zero, List.set_cons_succ, i64_w, i32_w]
    rfl
  refine one_ (i := 11) (N := some 53) #[yY,yY,yY,yY,yY,yY,yY,yY,yY,yY,yY,yY,nN,nN,nN,nN,nN] rfl rfl (by kernel_rfl) (by decide) (fun K hK => ?_)
  refine goes_ Tryd.func13 (by kernel_rfl) rfl #[.agg #[.int .i64 x.f0, .int .i64 x.f1, .bool x.f2, .slice G3 x.f3.length h3, .slice G4 x.f4.length h4], .agg #[.int .i64 x.f0, .int .i64 x.f1, .bool x.f2, .slice A5 x.f3.length c5, .slice A6 x.f4.length c6]] (by rfl) rfl rfl (by simp only [List.map_toArray, List.map_cons, List.map_nil]; rfl) ?_
  with_reducible refine (HSA.out V1 G3 h3 G4 h4 A5 c5 A6 c6 HG11.out HC11.out).mono ?_
  rintro e V2 ⟨rfl, hB12⟩
  refine ⟨_, rfl, ?_⟩
  have HB12 := Lib.hid (HB11.out.trans (hB12.mono HB11.out.size))
  have HU12 := Lib.hid (blk_below HU11.out hB12)
  have HY12 := Lib.hid (blk_below HY11.out hB12)
  clear hB12
  refine hK.out _ _ ⟨blk_cell (HU12.out) 0, blk_cell (HU12.out) 1, blk_cell (HU12.out) 2, blk_cell (HU12.out) 3, blk_cell (HU12.out) 4, blk_cell (HY12.out) 0, blk_cell (HY12.out) 1, blk_cell (HY12.out) 2, blk_cell (HY12.out) 3, blk_cell (HY12.out) 4⟩ (fun hHeld => ?_)
  clear hK K
  refine norm_ (a' := ?_) ?_ ?_
  rotate_left
  · show Act.put _ (some 53) _ = _
    simp only [Act.put, List.setIfInBounds_toArray, List.set_cons_zero, List.set_cons_succ, i64_w, i32_w]
    rfl
  refine pure_ (i := 12) (N := some 54) (v := ?_) (a' := ?_) #[yY,yY,yY,yY,yY,yY,yY,yY,yY,yY,yY,yY,yY,nN,nN,nN,nN] rfl rfl (by kernel_rfl) (fun _ _ _ h => h) (Or.inl ⟨by rfl, ?_⟩) ?_ ?_
  rotate_left
  · intro w'
    go_simp
    with_reducible rfl
  rotate_left
  · simp only [Act.put, List.setIfInBounds_toArray, List.set_cons_zero, List.set_cons_succ, i64_w, i32_w]
    rfl
  refine pure_ (i := 13) (N := some 55) (v := ?_) (a' := ?_) #[yY,yY,yY,yY,yY,yY,yY,yY,yY,yY,yY,yY,yY,yY,nN,nN,nN] rfl rfl (by kernel_rfl) (fun _ _ _ h => h) (Or.inl ⟨by rfl, ?_⟩) ?_ ?_
  rotate_left
  · intro w'
    go_simp
    with_reducible rfl
  rotate_left
  · simp only [Act.put, List.setIfInBounds_toArray, List.set_cons_zero, List.set_cons_succ, i64_w, i32_w]
    rfl
  refine one_ (i := 14) (N := some 56) #[yY,yY,yY,yY,yY,yY,yY,yY,yY,yY,yY,yY,yY,yY,yY,nN,nN] rfl rfl (by kernel_rfl) (by decide) (fun K hK => ?_)
  refine goes_ Tryd.func10 (by kernel_rfl) rfl #[] (by rfl) rfl rfl (by simp) ?_
  with_reducible refine (works_any V2).mono ?_
  rintro e V3 ⟨rfl, hB13⟩
  refine ⟨_, rfl, ?_⟩
  have HB13 := Lib.hid (HB12.out.trans (hB13.mono HB12.out.size))
  have HU13 := Lib.hid (blk_below HU12.out hB13)
  have HY13 := Lib.hid (blk_below HY12.out hB13)
  clear hB13
  refine hK.out _ _ ⟨blk_cell (HU13.out) 0, blk_cell (HU13.out) 1, blk_cell (HU13.out) 2, blk_cell (HU13.out) 3, blk_cell (HU13.out) 4, blk_cell (HY13.out) 0, blk_cell (HY13.out) 1, blk_cell (HY13.out) 2, blk_cell (HY13.out) 3, blk_cell (HY13.out) 4⟩ (fun hHeld => ?_)
  clear hK K
  refine norm_ (a' := ?_) ?_ ?_
  rotate_left
  · show Act.put _ (some 56) _ = _
    simp only [Act.put, List.setIfInBounds_toArray, List.set_cons_zero, List.set_cons_succ, i64_w, i32_w]
    rfl
  refine pure_ (i := 15) (N := some 57) (v := ?_) (a' := ?_) #[yY,yY,yY,yY,yY,yY,yY,yY,yY,yY,yY,yY,yY,yY,yY,yY,nN] rfl rfl (by kernel_rfl) (fun _ _ _ h => h) (Or.inl ⟨by rfl, ?_⟩) ?_ ?_
  rotate_left
  · intro w'
    go_simp
    with_reducible rfl
  rotate_left
  · simp only [Act.put, List.setIfInBounds_toArray, List.set_cons_zero, List.set_cons_succ, i64_w, i32_w]
    rfl
  refine pure_ (i := 16) (N := some 4) (v := ?_) (a' := ?_) #[yY,yY,yY,yY,yY,yY,yY,yY,yY,yY,yY,yY,yY,yY,yY,yY,yY] rfl rfl (by kernel_rfl) (fun _ _ _ h => h) (Or.inl ⟨by rfl, ?_⟩) ?_ ?_
  rotate_left
  · intro w'
    go_simp
    with_reducible rfl
  rotate_left
  · simp only [Act.put, List.setIfInBounds_toArray, List.set_cons_zero, List.set_cons_succ, i64_w, i32_w]
    rfl
  refine done_ (by kernel_rfl) ?_
  go_wp2
  go_ret
  exact ⟨rfl, HB13.out⟩
end Go.Proofs.YtejbpbdlolehnaaDoor.Ber
