/- Parts of the proof of one law, in the order in which they build. laws.FnMessage answers true at every argument. · What a law's argument reads as, in the print's kinds: from the row's reading ('DataW.trod') to 'Kd.K', for whole numbers, bools, strings, slices, structs, and types that hold themselves. General in the program. · What an argument of type impl.Packet reads as: a tree, its lengths within what memory holds. · What an argument of the type []impl.Control reads as. -/
import Derived.ProofKit
import Derived.SizedLaws
import Derived.Test.YtbmcpjkhnhbjdaaDoorMsg1
import Derived.Test.YtbmcpjkhnhbjdaaDoorMsg2
import Derived.Test.YtbmcpjkhnhbjdaaDoorMsg3
import Derived.Test.YtbmcpjkhnhbjdaaDoorMsg4
import Derived.Test.YtbmcpjkhnhbjdaaDoorMsg5
import Derived.Test.YtbmcpjkhnhbjdaaDoorMsg6
import Derived.Test.YtbmcpjkhnhbjdaaDoorMsg7
import Derived.Test.YtbmcpjkhnhbjdaaDoorMsg8
import Derived.Test.YtbmcpjkhnhbjdaaDoorMsg9
import Derived.Test.YtbmcpjkhnhbjdaaDoorMsg10
import Derived.Test.YtbmcpjkhnhbjdaaDoorMsg11
import Derived.Test.YtbmcpjkhnhbjdaaDoorMsg12
import Derived.Test.YtbmcpjkhnhbjdaaDoorMsg13
import Derived.Test.YtbmcpjkhnhbjdaaDoorMsg14
import Derived.Test.YtbmcpjkhnhbjdaaDoorMsg15
import Derived.Test.YtbmcpjkhnhbjdaaDoorMsg16
namespace Go.Proofs.YtbmcpjkhnhbjdaaDoor.Ber
open Go.RowKit Go.Proofs.YtbmcpjkhnhbjdaaDoorW.PrintWords Go.Proofs.YtbmcpjkhnhbjdaaDoor.PFnEncode Go.Proofs.YtbmcpjkhnhbjdaaDoorW.PrintLast Go.Proofs.YtbmcpjkhnhbjdaaDoor.Tree Go.Proofs.YtbmcpjkhnhbjdaaDoor.Buf Go.Proofs.YtbmcpjkhnhbjdaaDoor.Pk Go.Proofs.YtbmcpjkhnhbjdaaDoor.Within Go.Proofs.YtbmcpjkhnhbjdaaDoor.Num
set_option linter.unusedVariables false
set_option linter.unusedSimpArgs false

theorem wiL_deep (d : Nat) (h : ∀ (p : S27) (r : Int), good (wi d p r).1 = true → tdp (wi d p r).1 ≤ d) (p : S27) : ∀ (ks : List S27) (acc : List S33) (r : Int), (goodL acc = true → tdpL acc ≤ d) → good (wiL d p ks acc r).1 = true → tdp (wiL d p ks acc r).1 ≤ d + 1 := by
  intro ks
  induction ks with
  | nil =>
    intro acc r ha hg
    rw [wiL] at hg ⊢
    rw [good, Bool.and_eq_true] at hg
    rw [tdp]
    have := ha hg.2
    omega
  | cons k ks ih =>
    intro acc r ha hg
    rw [wiL] at hg ⊢
    by_cases hr : r < 0
    · rw [if_pos hr] at hg
      exact absurd hg (show ¬ good bad = true by decide)
    · rw [if_neg hr] at hg ⊢
      refine ih _ _ (fun hga => ?_) hg
      rw [goodL_append, Bool.and_eq_true, goodL, Bool.and_eq_true] at hga
      have h1 := ha hga.1
      have h2 := h k r hga.2.1
      rw [tdpL_app]
      omega
where
  tdpL_app : ∀ {l : List S33} {x : S33}, tdpL (l ++ [x]) = max (tdpL l) (tdp x)
    | [], x => by simp [tdpL]
    | y :: l, x => by
      rw [List.cons_append, tdpL, tdpL, tdpL_app]
      omega
theorem wi_deep : ∀ (d : Nat) (p : S27) (r : Int), good (wi d p r).1 = true → tdp (wi d p r).1 ≤ d
  | 0, p, r, h => by rw [wi] at h; exact absurd h (show ¬ good bad = true by decide)
  | d + 1, p, r, h => by
    rw [wi] at h ⊢
    by_cases hr : r - (1 + (p.f3.length : Int)) < 0
    · rw [if_pos hr] at h
      exact absurd h (show ¬ good bad = true by decide)
    · rw [if_neg hr] at h ⊢
      exact wiL_deep d (wi_deep d) p p.f4 [] _ (fun _ => by rw [tdpL]; omega) h
theorem dCs_size : ∀ l : List S79, (∀ c, c ∈ l → okCtl c) → tsizeL (mirL (l.map dC)) ≤ 1000 * l.length ∧ tdpL (mirL (l.map dC)) ≤ 2
  | [], _ => by simp [mirL, tsizeL, tdpL]
  | c :: l, h => by
    have h1 := dC_size c (h c (by simp))
    have h2 := dCs_size l (fun x hx => h x (by simp [hx]))
    rw [List.map_cons, mirL, tsizeL, tdpL, List.length_cons]
    omega
theorem msg_size (id : Int) (hid : -9223372036854775808 ≤ id ∧ id ≤ 9223372036854775807) (p : S27) (hp : tsize (mir p) ≤ 5000 ∧ tdp (mir p) ≤ 20) (l : List S79) (h : ∀ c, c ∈ l → okCtl c) (hl : l.length ≤ 5) : tsize (mir (msgD id p (l.map dC))) ≤ 200000 ∧ tdp (mir (msgD id p (l.map dC))) ≤ 60 := by
  have hw : (whole id).length ≤ 8 := whole_len id hid
  have h1 := dCs_size l h
  generalize hds : l.map dC = ds at h1
  unfold msgD
  cases ds with
  | nil =>
    simp [mir, mirL, tsize, tsizeL, tdp, tdpL]
    omega
  | cons d ds =>
    simp only [mirL, tsizeL, tdpL] at h1
    simp [mir, mirL, tsize, tsizeL, tdp, tdpL]
    omega
theorem zz_exM (p : S27) : ∃ r, laws_zzFits1.f p.f0 p.f1 p.f2 p.f3 p.f4 = some r := by
  unfold laws_zzFits1.f
  repeat' split
  all_goals exact ⟨_, rfl⟩
set_option maxHeartbeats 3200000 in
set_option maxRecDepth 100000 in
theorem fnMessage_any (id : Int) (hid : -9223372036854775808 ≤ id ∧ id ≤ 9223372036854775807) (p : S27) (A3 : Option Addr) (c3 : Nat) (A4 : Option Addr) (c4 : Nat) (ls : List S79) (A : Option Addr) (cc : Nat) (w : World) (h3 : (Kd.int .u8).C w A3 p.f3.length p.f3) (l3 : p.f3.length ≤ c3) (h4 : k27.C w A4 p.f4.length p.f4) (l4 : p.f4.length ≤ c4) (hln : lens p = true)
    (hls : k79.C w A ls.length ls) (hlc : ls.length ≤ cc) (hlb : ls.length < 4611686018427387904) (hrg : ∀ c, c ∈ ls → (-9223372036854775808 ≤ c.f4 ∧ c.f4 ≤ 9223372036854775807) ∧ ∀ x, x ∈ c.f5 → 0 ≤ x ∧ x < 256) :
    Calls Tryd.prog 9 #[.int .i64 id, .agg #[.int .i64 p.f0, .int .i64 p.f1, .bool p.f2, .slice A3 p.f3.length c3, .slice A4 p.f4.length c4], .slice A ls.length cc] w fun e w' => e = .returned (.bool true) ∧ Below w.heap.size w w' := by
  obtain ⟨r1, hz⟩ := zz_exM p
  have HZ : Hid (∀ W, Below w.heap.size w W → Calls Tryd.prog 34 #[.agg #[.int .i64 p.f0, .int .i64 p.f1, .bool p.f2, .slice A3 p.f3.length c3, .slice A4 p.f4.length c4]] W fun e w' => e = .returned (.bool r1) ∧ Below W.heap.size W w') :=
    Lib.hid (fun W hW => laws_zzFits1.calls _ _ _ _ _ _ _ _ _ r1 W (Kd.C_below h3 hW) l3 (Kd.C_below h4 hW) l4 hz)
  obtain ⟨kz, r2, hzl, hzs⟩ := fits14_ok ls hlb
  have HZL : Hid (∀ W, Below w.heap.size w W → Calls Tryd.prog 35 #[.slice A ls.length cc] W fun e w' => e = .returned (.bool r2) ∧ Below W.heap.size W w') :=
    Lib.hid (fun W hW => laws_zzFits14.calls kz A cc ls r2 W (Kd.C_below hls hW) hlc hzl)
  obtain ⟨x, hx⟩ : ∃ x, x = (wi 20 p 5000).1 := ⟨_, rfl⟩
  have HP : Hid (∀ W, Below w.heap.size w W → Calls Tryd.prog 36 #[.agg #[.int .i64 p.f0, .int .i64 p.f1, .bool p.f2, .slice A3 p.f3.length c3, .slice A4 p.f4.length c4]] W (Got W x)) :=
    Lib.hid (fun W hW => hx ▸ packet_any p A3 c3 A4 c4 W (Kd.C_below h3 hW) l3 (Kd.C_below h4 hW) l4 hln)
  have hsm : tsize x < 281474976710656 := hx ▸ wi_small 20 p 5000 hln (by omega) (by omega)
  obtain ⟨k, b, hfit, hgood⟩ := fits_ex x (by omega)
  have HFT : Hid (∀ (W : World) (A5 : Option Addr) (c5 : Nat) (A6 : Option Addr) (c6 : Nat), (Kd.int .u8).C W A5 x.f3.length x.f3 → x.f3.length ≤ c5 → k33.C W A6 x.f4.length x.f4 → x.f4.length ≤ c6 → Calls Tryd.prog 37 #[.agg #[.int .i64 x.f0, .int .i64 x.f1, .bool x.f2, .slice A5 x.f3.length c5, .slice A6 x.f4.length c6]] W fun e w' => e = .returned (.bool b) ∧ Below W.heap.size W w') :=
    Lib.hid (fun W A5 c5 A6 c6 h5 l5 h6 l6 => laws_fits.calls k _ _ _ _ _ _ _ _ _ b W h5 l5 h6 l6 hfit)
  obtain ⟨kk, kp, hkp⟩ := Tree.kept_ex x (by omega)
  have HKT : Hid (∀ (W : World) (A5 : Option Addr) (c5 : Nat) (A6 : Option Addr) (c6 : Nat), (Kd.int .u8).C W A5 x.f3.length x.f3 → x.f3.length ≤ c5 → k33.C W A6 x.f4.length x.f4 → x.f4.length ≤ c6 → Calls Tryd.prog 38 #[.agg #[.int .i64 x.f0, .int .i64 x.f1, .bool x.f2, .slice A5 x.f3.length c5, .slice A6 x.f4.length c6]] W fun e w' => e = .returned (.bool kp) ∧ Below W.heap.size W w') :=
    Lib.hid (fun W A5 c5 A6 c6 h5 l5 h6 l6 => spec_Kept.calls kk _ _ _ _ _ _ _ _ _ kp W h5 l5 h6 l6 hkp)
  have hxm : b = true → x = mir p ∧ good (mir p) = true ∧ tsize (mir p) ≤ 5000 ∧ tdp (mir p) ≤ 20 := fun hb => by
    have hg := hgood hb
    have hdp := wi_deep 20 p 5000 (by rw [← hx]; exact hg)
    rw [hx] at hg ⊢
    obtain ⟨h1, h2, h3⟩ := wi_good 20 p 5000 hg
    rw [h1] at hg hdp ⊢
    exact ⟨rfl, hg, by omega, hdp⟩
  have HXM := Lib.hid hxm
  have HZS := Lib.hid hzs
  have HH := Lib.hid (And.intro h3 (And.intro h4 hls))
  have HRG := Lib.hid hrg
  clear hz hzl hx hsm hfit hgood hkp hxm hzs h3 h4 hls hrg hln l3 l4
  by_cases hall : r1 = true ∧ r2 = true ∧ b = true ∧ kp = true ∧ 0 ≤ id ∧ id < 2147483648 ∧ ls.length ≤ 5
  rotate_left
  · have e1 : r1 = false ∨ (r1 = true ∧ r2 = false) ∨ (r1 = true ∧ r2 = true ∧ b = false) ∨ (r1 = true ∧ r2 = true ∧ b = true ∧ kp = false) ∨ (r1 = true ∧ r2 = true ∧ b = true ∧ kp = true ∧ id < 0) ∨ (r1 = true ∧ r2 = true ∧ b = true ∧ kp = true ∧ 0 ≤ id ∧ 2147483648 ≤ id) ∨ (r1 = true ∧ r2 = true ∧ b = true ∧ kp = true ∧ 0 ≤ id ∧ id < 2147483648 ∧ 5 < ls.length) := by
      cases r1 <;> cases r2 <;> cases b <;> cases kp <;> simp at hall ⊢
      omega
    clear hall
    rcases e1 with rfl | ⟨rfl, rfl⟩ | ⟨rfl, rfl, rfl⟩ | ⟨rfl, rfl, rfl, rfl⟩ | ⟨rfl, rfl, rfl, rfl, h⟩ | ⟨rfl, rfl, rfl, rfl, h0, h⟩ | ⟨rfl, rfl, rfl, rfl, h0, h1, h⟩
    all_goals first
      | (have q1 : decide (id < 0) = false := decide_eq_false (by omega)
         have q2 : decide (2147483648 ≤ id) = false := decide_eq_false (by omega)
         have q3 : decide (5 < (ls.length : Int)) = true := decide_eq_true (by omega)
         have q4 : decide (5 < ls.length) = true := decide_eq_true (by omega)
         clear h0 h1 h)
      | (have q1 : decide (id < 0) = false := decide_eq_false (by omega)
         have q2 : decide (2147483648 ≤ id) = true := decide_eq_true (by omega)
         clear h0 h)
      | (have q1 : decide (id < 0) = true := decide_eq_true (by omega)
         clear h)
      | skip
    all_goals clear hid hlb hlc
    all_goals go_enter Tryd.func9, Tryd.ntmps9
    all_goals go_wp2_with (first
      | (go_at_call 34
         obtain ⟨W0, hW0⟩ : ∃ W0, W0 = w.alloc (.cells #[.int .i64 p.f0, .int .i64 p.f1, .bool p.f2, .slice A3 p.f3.length c3, .slice A4 p.f4.length c4] 27) := ⟨_, rfl⟩
         rw [← hW0]
         have hb0 : Below w.heap.size w W0 := by rw [hW0]; exact below_alloc (Below.refl _ _) _
         have hx0 : W0.heap[w.heap.size]? = some (.cells #[.int .i64 p.f0, .int .i64 p.f1, .bool p.f2, .slice A3 p.f3.length c3, .slice A4 p.f4.length c4] 27 (0, 0)) := by rw [hW0]; exact blk_new _ _
         clear hW0
         refine (HZ.out W0 hb0).mono ?_
         rintro e W1 ⟨rfl, hB1⟩
         have HB1 := Lib.hid (hb0.trans (hB1.mono hb0.size))
         have HX1 := Lib.hid (blk_below hx0 hB1)
         clear hb0 hx0 hB1)
      | (go_at_call 35
         refine (HZL.out W1 HB1.out).mono ?_
         rintro e W2 ⟨rfl, hB2⟩
         have HB2 := Lib.hid (HB1.out.trans (hB2.mono HB1.out.size))
         have HX2 := Lib.hid (blk_below HX1.out hB2)
         have b0 : W2.cell? ⟨w.heap.size, 0, none⟩ = some (.int .i64 p.f0) := blk_cell HX2.out 0
         have b1 : W2.cell? ⟨w.heap.size, 1, none⟩ = some (.int .i64 p.f1) := blk_cell HX2.out 1
         have b2 : W2.cell? ⟨w.heap.size, 2, none⟩ = some (.bool p.f2) := blk_cell HX2.out 2
         have b3 : W2.cell? ⟨w.heap.size, 3, none⟩ = some (.slice A3 p.f3.length c3) := blk_cell HX2.out 3
         have b4 : W2.cell? ⟨w.heap.size, 4, none⟩ = some (.slice A4 p.f4.length c4) := blk_cell HX2.out 4
         clear hB2)
      | (go_at_call 36
         refine (HP.out W2 HB2.out).mono ?_
         rintro e W3 ⟨A5, c5, A6, c6, rfl, l5, h5, l6, h6, hB3⟩
         have HC3 : Hid ((Kd.int .u8).C W3 A5 x.f3.length x.f3 ∧ x.f3.length ≤ c5 ∧ k33.C W3 A6 x.f4.length x.f4 ∧ x.f4.length ≤ c6) := Lib.hid ⟨h5, l5, h6, l6⟩
         have HB3 := Lib.hid (HB2.out.trans (hB3.mono HB2.out.size))
         have HX3 := Lib.hid (blk_below HX2.out hB3)
         clear hB3 h5 l5 h6 l6 b0 b1 b2 b3 b4)
      | (go_at_call 37
         obtain ⟨W4, hW4⟩ : ∃ W4, W4 = W3.alloc (.cells #[.int .i64 x.f0, .int .i64 x.f1, .bool x.f2, .slice A5 x.f3.length c5, .slice A6 x.f4.length c6] 33) := ⟨_, rfl⟩
         rw [← hW4]
         have hb4 : Below W3.heap.size W3 W4 := by rw [hW4]; exact below_alloc (Below.refl _ _) _
         have hx4 : W4.heap[W3.heap.size]? = some (.cells #[.int .i64 x.f0, .int .i64 x.f1, .bool x.f2, .slice A5 x.f3.length c5, .slice A6 x.f4.length c6] 33 (0, 0)) := by rw [hW4]; exact blk_new _ _
         clear hW4
         refine (HFT.out W4 A5 c5 A6 c6 (Kd.C_below HC3.out.1 hb4) HC3.out.2.1 (Kd.C_below HC3.out.2.2.1 hb4) HC3.out.2.2.2).mono ?_
         rintro e W5 ⟨rfl, hB5⟩
         have hb5 : Below W3.heap.size W3 W5 := hb4.trans (hB5.mono hb4.size)
         have HC5 : Hid ((Kd.int .u8).C W5 A5 x.f3.length x.f3 ∧ x.f3.length ≤ c5 ∧ k33.C W5 A6 x.f4.length x.f4 ∧ x.f4.length ≤ c6) := Lib.hid ⟨Kd.C_below HC3.out.1 hb5, HC3.out.2.1, Kd.C_below HC3.out.2.2.1 hb5, HC3.out.2.2.2⟩
         have HB5 := Lib.hid (HB3.out.trans (hb5.mono HB3.out.size))
         have HX5 := Lib.hid (blk_below HX3.out hb5)
         have HY5 := Lib.hid (blk_below hx4 hB5)
         have d0 : W5.cell? ⟨W3.heap.size, 0, none⟩ = some (.int .i64 x.f0) := blk_cell HY5.out 0
         have d1 : W5.cell? ⟨W3.heap.size, 1, none⟩ = some (.int .i64 x.f1) := blk_cell HY5.out 1
         have d2 : W5.cell? ⟨W3.heap.size, 2, none⟩ = some (.bool x.f2) := blk_cell HY5.out 2
         have d3 : W5.cell? ⟨W3.heap.size, 3, none⟩ = some (.slice A5 x.f3.length c5) := blk_cell HY5.out 3
         have d4 : W5.cell? ⟨W3.heap.size, 4, none⟩ = some (.slice A6 x.f4.length c6) := blk_cell HY5.out 4
         clear hb4 hx4 hB5 hb5 HC3 HX3)
      | (go_at_call 38
         refine (HKT.out W5 A5 c5 A6 c6 HC5.out.1 HC5.out.2.1 HC5.out.2.2.1 HC5.out.2.2.2).mono ?_
         rintro e W6 ⟨rfl, hB6⟩
         have HC6 : Hid ((Kd.int .u8).C W6 A5 x.f3.length x.f3 ∧ x.f3.length ≤ c5 ∧ k33.C W6 A6 x.f4.length x.f4 ∧ x.f4.length ≤ c6) := Lib.hid ⟨Kd.C_below HC5.out.1 hB6, HC5.out.2.1, Kd.C_below HC5.out.2.2.1 hB6, HC5.out.2.2.2⟩
         have HB6 := Lib.hid (HB5.out.trans (hB6.mono HB5.out.size))
         have HX6 := Lib.hid (blk_below HX5.out hB6)
         have HY6 := Lib.hid (blk_below HY5.out hB6)
         clear hB6 d0 d1 d2 d3 d4)
      | (go_at_call 11
         refine (works_any _).mono ?_
         rintro e W9 ⟨rfl, hB9⟩))
    all_goals go_ret
    all_goals first
      | exact ⟨rfl, HB6.out.trans (hB9.mono HB6.out.size)⟩
      | exact ⟨rfl, HB5.out.trans (hB9.mono HB5.out.size)⟩
      | exact ⟨rfl, HB2.out⟩
      | exact ⟨rfl, HB1.out⟩
  obtain ⟨rfl, rfl, rfl, rfl, hi0, hi1, hl5⟩ := hall
  have q1 : decide (id < 0) = false := decide_eq_false (by omega)
  have q2 : decide (2147483648 ≤ id) = false := decide_eq_false (by omega)
  have q3 : decide (5 < (ls.length : Int)) = false := decide_eq_false (by omega)
  have q4 : decide (5 < ls.length) = false := decide_eq_false (by omega)
  obtain ⟨hxm, hgd, hts, htd⟩ := HXM.out rfl
  subst hxm
  have HSZ := Lib.hid (HZS.out rfl)
  have HG := Lib.hid (And.intro hgd (And.intro hts htd))
  have HL5 := Lib.hid (And.intro hl5 (And.intro hlc hid))
  obtain ⟨x, hx⟩ : ∃ x, x = mir p := ⟨_, rfl⟩
  rw [← hx] at HP HFT HKT
  have HXP := Lib.hid hx
  clear HXM HZS hid hlb hlc hi0 hi1 hl5 hgd hts htd hx
  go_enter Tryd.func9, Tryd.ntmps9
  go_upto_region 6 with (first
      | (go_at_call 34
         obtain ⟨W0, hW0⟩ : ∃ W0, W0 = w.alloc (.cells #[.int .i64 p.f0, .int .i64 p.f1, .bool p.f2, .slice A3 p.f3.length c3, .slice A4 p.f4.length c4] 27) := ⟨_, rfl⟩
         rw [← hW0]
         have hb0 : Below w.heap.size w W0 := by rw [hW0]; exact below_alloc (Below.refl _ _) _
         have hx0 : W0.heap[w.heap.size]? = some (.cells #[.int .i64 p.f0, .int .i64 p.f1, .bool p.f2, .slice A3 p.f3.length c3, .slice A4 p.f4.length c4] 27 (0, 0)) := by rw [hW0]; exact blk_new _ _
         clear hW0
         refine (HZ.out W0 hb0).mono ?_
         rintro e W1 ⟨rfl, hB1⟩
         have HB1 := Lib.hid (hb0.trans (hB1.mono hb0.size))
         have HX1 := Lib.hid (blk_below hx0 hB1)
         clear hb0 hx0 hB1)
      | (go_at_call 35
         refine (HZL.out W1 HB1.out).mono ?_
         rintro e W2 ⟨rfl, hB2⟩
         have HB2 := Lib.hid (HB1.out.trans (hB2.mono HB1.out.size))
         have HX2 := Lib.hid (blk_below HX1.out hB2)
         have b0 : W2.cell? ⟨w.heap.size, 0, none⟩ = some (.int .i64 p.f0) := blk_cell HX2.out 0
         have b1 : W2.cell? ⟨w.heap.size, 1, none⟩ = some (.int .i64 p.f1) := blk_cell HX2.out 1
         have b2 : W2.cell? ⟨w.heap.size, 2, none⟩ = some (.bool p.f2) := blk_cell HX2.out 2
         have b3 : W2.cell? ⟨w.heap.size, 3, none⟩ = some (.slice A3 p.f3.length c3) := blk_cell HX2.out 3
         have b4 : W2.cell? ⟨w.heap.size, 4, none⟩ = some (.slice A4 p.f4.length c4) := blk_cell HX2.out 4
         clear hB2)
      | (go_at_call 36
         refine (HP.out W2 HB2.out).mono ?_
         rintro e W3 ⟨A5, c5, A6, c6, rfl, l5, h5, l6, h6, hB3⟩
         have HC3 : Hid ((Kd.int .u8).C W3 A5 x.f3.length x.f3 ∧ x.f3.length ≤ c5 ∧ k33.C W3 A6 x.f4.length x.f4 ∧ x.f4.length ≤ c6) := Lib.hid ⟨h5, l5, h6, l6⟩
         have HB3 := Lib.hid (HB2.out.trans (hB3.mono HB2.out.size))
         have HX3 := Lib.hid (blk_below HX2.out hB3)
         clear hB3 h5 l5 h6 l6 b0 b1 b2 b3 b4)
      | (go_at_call 37
         obtain ⟨W4, hW4⟩ : ∃ W4, W4 = W3.alloc (.cells #[.int .i64 x.f0, .int .i64 x.f1, .bool x.f2, .slice A5 x.f3.length c5, .slice A6 x.f4.length c6] 33) := ⟨_, rfl⟩
         rw [← hW4]
         have hb4 : Below W3.heap.size W3 W4 := by rw [hW4]; exact below_alloc (Below.refl _ _) _
         have hx4 : W4.heap[W3.heap.size]? = some (.cells #[.int .i64 x.f0, .int .i64 x.f1, .bool x.f2, .slice A5 x.f3.length c5, .slice A6 x.f4.length c6] 33 (0, 0)) := by rw [hW4]; exact blk_new _ _
         clear hW4
         refine (HFT.out W4 A5 c5 A6 c6 (Kd.C_below HC3.out.1 hb4) HC3.out.2.1 (Kd.C_below HC3.out.2.2.1 hb4) HC3.out.2.2.2).mono ?_
         rintro e W5 ⟨rfl, hB5⟩
         have hb5 : Below W3.heap.size W3 W5 := hb4.trans (hB5.mono hb4.size)
         have HC5 : Hid ((Kd.int .u8).C W5 A5 x.f3.length x.f3 ∧ x.f3.length ≤ c5 ∧ k33.C W5 A6 x.f4.length x.f4 ∧ x.f4.length ≤ c6) := Lib.hid ⟨Kd.C_below HC3.out.1 hb5, HC3.out.2.1, Kd.C_below HC3.out.2.2.1 hb5, HC3.out.2.2.2⟩
         have HB5 := Lib.hid (HB3.out.trans (hb5.mono HB3.out.size))
         have HX5 := Lib.hid (blk_below HX3.out hb5)
         have HY5 := Lib.hid (blk_below hx4 hB5)
         have d0 : W5.cell? ⟨W3.heap.size, 0, none⟩ = some (.int .i64 x.f0) := blk_cell HY5.out 0
         have d1 : W5.cell? ⟨W3.heap.size, 1, none⟩ = some (.int .i64 x.f1) := blk_cell HY5.out 1
         have d2 : W5.cell? ⟨W3.heap.size, 2, none⟩ = some (.bool x.f2) := blk_cell HY5.out 2
         have d3 : W5.cell? ⟨W3.heap.size, 3, none⟩ = some (.slice A5 x.f3.length c5) := blk_cell HY5.out 3
         have d4 : W5.cell? ⟨W3.heap.size, 4, none⟩ = some (.slice A6 x.f4.length c6) := blk_cell HY5.out 4
         clear hb4 hx4 hB5 hb5 HC3 HX3)
      | (go_at_call 38
         refine (HKT.out W5 A5 c5 A6 c6 HC5.out.1 HC5.out.2.1 HC5.out.2.2.1 HC5.out.2.2.2).mono ?_
         rintro e W6 ⟨rfl, hB6⟩
         have HC6 : Hid ((Kd.int .u8).C W6 A5 x.f3.length x.f3 ∧ x.f3.length ≤ c5 ∧ k33.C W6 A6 x.f4.length x.f4 ∧ x.f4.length ≤ c6) := Lib.hid ⟨Kd.C_below HC5.out.1 hB6, HC5.out.2.1, Kd.C_below HC5.out.2.2.1 hB6, HC5.out.2.2.2⟩
         have HB6 := Lib.hid (HB5.out.trans (hB6.mono HB5.out.size))
         have HX6 := Lib.hid (blk_below HX5.out hB6)
         have HY6 := Lib.hid (blk_below HY5.out hB6)
         clear hB6 d0 d1 d2 d3 d4))
  obtain ⟨g7, hg7⟩ : ∃ g7, g7 = W3.heap.size := ⟨_, rfl⟩
  rw [← hg7] at HY6 ⊢
  clear hg7 HB1 HB2 HB3 HB5 HX1 HX2 HX5 HY5 HC5 HP HFT HKT HZ HZL
  go_wp2
  go_loopw [49, 8] (fun i v wr => ∃ k : Nat, i = .int .i64 k ∧ k ≤ ls.length ∧ Hid (Kd.N k33 33 wr W6.heap.size (fun q => W6.heap.size ≤ q) v ((ls.take k).map cS)) ∧ Hid (Below W6.heap.size W6 wr) ∧ Hid (∀ c, c ∈ ls.take k → cF c = true)) (fun i _ _ => ls.length - (intOf i).toNat)
  case atStart => exact ⟨0, rfl, Nat.zero_le _, Lib.hid (Kd.N_nil _ _ _ _ _), Lib.hid (Below.refl _ _), Lib.hid (fun c hc => by simp at hc)⟩
  case round =>
    obtain ⟨k, rfl, hk, HN, HBr, HOKS⟩ := hrel
    have HBw : Hid (Below w.heap.size w wr) := Lib.hid (HB6.out.trans (HBr.out.mono HB6.out.size))
    have hk5 : ls.length ≤ 5 := HL5.out.1
    by_cases hlt : k < ls.length
    · obtain ⟨ad, A7, c7, A8, c8, rfl, e0, e1, e2, e3, e4, e5, m3, g3, m5, g5⟩ := at_T79 HH.out.2.2 (k : Int) (by omega) (by omega)
      rw [Int.toNat_natCast] at e0 e1 e2 e3 e4 e5
      have hrd : rd_T79 ls (k : Int) = ls[k] := by rw [rd_T79, Int.toNat_natCast, List.getD_eq_getElem?_getD, List.getElem?_eq_getElem hlt]; rfl
      rw [hrd] at e0 e1 e2 e3 e4 e5 g3 g5
      replace e0 := (HBw.out.cell (World.block_lt_of_cell? w _ e0)).trans e0
      replace e1 := (HBw.out.cell (World.block_lt_of_cell? w _ e1)).trans e1
      replace e2 := (HBw.out.cell (World.block_lt_of_cell? w _ e2)).trans e2
      replace e3 := (HBw.out.cell (World.block_lt_of_cell? w _ e3)).trans e3
      replace e4 := (HBw.out.cell (World.block_lt_of_cell? w _ e4)).trans e4
      replace e5 := (HBw.out.cell (World.block_lt_of_cell? w _ e5)).trans e5
      have HST : Hid ((ls.take k).map cS ++ [cS ls[k]] = (ls.take (k + 1)).map cS) := Lib.hid (by rw [List.take_succ_eq_append_getElem hlt, List.map_append]; rfl)
      have HOK1 : Hid (cF ls[k] = true → ∀ c, c ∈ ls.take (k + 1) → cF c = true) := Lib.hid (fun h c hc => by
        rw [List.take_succ_eq_append_getElem hlt] at hc
        rcases List.mem_append.1 hc with h1 | h1
        · exact HOKS.out c h1
        · obtain rfl : c = ls[k] := by simpa using h1
          exact h)
      have HLE : Hid ((((ls.take k).map cS).length + 1) * 72 ≤ 140737488355328) := Lib.hid (by have := HL5.out.1; rw [List.length_map, List.length_take]; omega)
      have HCT : Hid (∀ W, Below wr.heap.size wr W → Calls Tryd.prog 39 #[.agg #[.int .i64 ls[k].f0, .string ls[k].f1, .bool ls[k].f2, .slice A7 ls[k].f3.length c7, .int .i64 ls[k].f4, .slice A8 ls[k].f5.length c8]] W (LC W (cS ls[k]) (cF ls[k]))) := Lib.hid (fun W hb => lctl_any ls[k] A7 c7 A8 c8 W (HSZ.out _ (List.getElem_mem hlt)) (HRG.out _ (List.getElem_mem hlt)).1 (Kd.C_below g3 (HBw.out.trans (hb.mono HBw.out.size))) (Kd.C_below g5 (HBw.out.trans (hb.mono HBw.out.size))))
      obtain ⟨c, hc⟩ : ∃ c, c = ls[k] := ⟨_, rfl⟩
      obtain ⟨acc, hacc⟩ : ∃ acc, acc = (ls.take k).map cS := ⟨_, rfl⟩
      rw [← hc] at e0 e1 e2 e3 e4 e5 HST HOK1 HCT
      rw [← hacc] at HST HLE HN
      obtain ⟨d, hd⟩ : ∃ d, d = cS c := ⟨_, rfl⟩
      obtain ⟨f, hf⟩ : ∃ f, f = cF c := ⟨_, rfl⟩
      rw [← hd] at HST HCT
      rw [← hf] at HOK1 HCT
      clear hc hacc hd hf hrd g3 g5 m3 m5 HOKS
      cases f with
      | false =>
        go_wp2_with (first
          | (go_at_call 39
             obtain ⟨W7, hW7⟩ : ∃ W7, W7 = wr.alloc (.cells #[.int .i64 c.f0, .string c.f1, .bool c.f2, .slice A7 c.f3.length c7, .int .i64 c.f4, .slice A8 c.f5.length c8] 79) := ⟨_, rfl⟩
             rw [← hW7]
             have hb7 : Below wr.heap.size wr W7 := by rw [hW7]; exact below_alloc (Below.refl _ _) _
             clear hW7
             with_reducible refine (HCT.out W7 hb7).mono ?_
             rintro e W8 ⟨B3, d3, B4, d4, rfl, hL8, hB8⟩
             have hb8 : Below wr.heap.size wr W8 := hb7.trans (hB8.mono hb7.size)
             have HL8 := Lib.hid (hL8.low hb7.size)
             have HBr8 := Lib.hid (HBr.out.trans (hb8.mono HBr.out.size))
             have HB8 := Lib.hid (HBw.out.trans (hb8.mono HBw.out.size))
             have HN8 := Lib.hid (Kd.N_below HN.out hb8)
             clear hb7 hL8 hB8 hb8)
          | (go_at_call 11
             refine (works_any _).mono ?_
             rintro e W9 ⟨rfl, hB9⟩))
        go_ret
        exact ⟨rfl, HB8.out.trans ((below_alloc (Below.refl _ _) _).trans (hB9.mono (Nat.le_trans (Nat.le_refl _) (by simp))) |>.mono HB8.out.size)⟩
      | true =>
        go_upto_region 13 with (first
          | (go_at_call 39
             obtain ⟨W7, hW7⟩ : ∃ W7, W7 = wr.alloc (.cells #[.int .i64 c.f0, .string c.f1, .bool c.f2, .slice A7 c.f3.length c7, .int .i64 c.f4, .slice A8 c.f5.length c8] 79) := ⟨_, rfl⟩
             rw [← hW7]
             have hb7 : Below wr.heap.size wr W7 := by rw [hW7]; exact below_alloc (Below.refl _ _) _
             clear hW7
             with_reducible refine (HCT.out W7 hb7).mono ?_
             rintro e W8 ⟨B3, d3, B4, d4, rfl, hL8, hB8⟩
             have hb8 : Below wr.heap.size wr W8 := hb7.trans (hB8.mono hb7.size)
             have HL8 := Lib.hid (hL8.low hb7.size)
             have HBr8 := Lib.hid (HBr.out.trans (hb8.mono HBr.out.size))
             have HB8 := Lib.hid (HBw.out.trans (hb8.mono HBw.out.size))
             have HN8 := Lib.hid (Kd.N_below HN.out hb8)
             clear hb7 hL8 hB8 hb8)
          )
        obtain ⟨W9, hW9⟩ : ∃ W9, W9 = W8.alloc (.cells #[.int .i64 d.f0, .int .i64 d.f1, .bool d.f2, .slice B3 d.f3.length d3, .slice B4 d.f4.length d4] 33) := ⟨_, rfl⟩
        rw [← hW9]
        have hb9 : Below W8.heap.size W8 W9 := by rw [hW9]; exact below_alloc (Below.refl _ _) _
        have hx9 : W9.heap[W8.heap.size]? = some (.cells #[.int .i64 d.f0, .int .i64 d.f1, .bool d.f2, .slice B3 d.f3.length d3, .slice B4 d.f4.length d4] 33 (0, 0)) := by rw [hW9]; exact blk_new _ _
        have m0 : W9.cell? ⟨W8.heap.size, 0, none⟩ = some (.int .i64 d.f0) := blk_cell hx9 0
        have m1 : W9.cell? ⟨W8.heap.size, 1, none⟩ = some (.int .i64 d.f1) := blk_cell hx9 1
        have m2 : W9.cell? ⟨W8.heap.size, 2, none⟩ = some (.bool d.f2) := blk_cell hx9 2
        have m3 : W9.cell? ⟨W8.heap.size, 3, none⟩ = some (.slice B3 d.f3.length d3) := blk_cell hx9 3
        have m4 : W9.cell? ⟨W8.heap.size, 4, none⟩ = some (.slice B4 d.f4.length d4) := blk_cell hx9 4
        have HN9 := Lib.hid (Kd.N_below HN8.out hb9)
        have HBr9 := Lib.hid (HBr8.out.trans (hb9.mono HBr8.out.size))
        have HLT : Hid (∀ k, u8.ownBlock = some k → k < wr.heap.size) := Lib.hid (Kd.N_lt HN.out)
        have HK9 : Hid (Kd.FK k33 W9 (fun q => W6.heap.size ≤ q ∧ some q ≠ u8.ownBlock) d [.int .i64 d.f0, .int .i64 d.f1, .bool d.f2, .slice B3 d.f3.length d3, .slice B4 d.f4.length d4]) := Lib.hid (Kd.FK_mono (HL8.out.below hb9).fk (fun q hq => ⟨Nat.le_trans HBr.out.size hq, fun he => by have := HLT.out q he.symm; omega⟩))
        have HFR : Hid (∀ q, W9.heap.size ≤ q → W6.heap.size ≤ q) := Lib.hid (fun q hq => Nat.le_trans HBr9.out.size hq)
        clear hW9 hb9 hx9 HCT e0 e1 e2 e3 e4 e5
        go_wp2_with (first
          | ((with_reducible refine gate_builtin (b := .append) (xs := #[.tmp 61, .tmp 63]) rfl ?_)
             at_builtin
             refine Kd.N_append k33 (w0 := W6) (W := W9) W6.heap.size rfl (.tmp 61) (.tmp 63) 31 33 (.agg #[.int .i64 0, .int .i64 0, .bool false, .slice none 0 0, .slice none 0 0]) 72 rfl Tryd.underlying31 info_sp rfl (show 0 < 5 by decide) (by decide) u8 acc d _ (fun q => W6.heap.size ≤ q) _ rfl rfl HK9.out (fun _ h => h) HFR.out HN9.out HBr9.out HBr9.out.size HLE.out ?_
             intro v1 w1 hR hb hg hat
             have HNZ := Lib.hid hR
             have HBZ := Lib.hid hb
             clear hR hb hg hat))
        exact ⟨⟨k + 1, by first | rfl | go_num, hlt, by rw [← HST.out]; exact HNZ, HBZ, Lib.hid (HOK1.out (by trivial))⟩, by simp [intOf]; omega⟩
    · obtain rfl : k = ls.length := by omega
      rw [List.take_length] at HN HOKS
      have hok : ∀ c, c ∈ ls → okCtl c := fun c hc => (cF_ok c (HOKS.out c hc)).1
      have hcs : ls.map cS = ls.map dS := List.map_congr_left (fun c hc => (cF_ok c (HOKS.out c hc)).2)
      rw [hcs] at HN
      obtain ⟨A9, c9, rfl, l9, hC9⟩ := Kd.N_reads HN.out
      obtain ⟨y0, hy0⟩ : ∃ y, y = msgT id x (ls.map dS) := ⟨_, rfl⟩
      obtain ⟨p0, hp0⟩ : ∃ p0, p0 = msgD id p (ls.map dC) := ⟨_, rfl⟩
      have HIM : Hid (∀ W, Below wr.heap.size wr W → Calls Tryd.prog 40 #[.int .i64 id, .agg #[.int .i64 p.f0, .int .i64 p.f1, .bool p.f2, .slice A3 p.f3.length c3, .slice A4 p.f4.length c4], .slice A ls.length cc] W (OpRes W p0)) := Lib.hid (fun W hb => by
        rw [hp0]
        exact message_any id HL5.out.2.2 p HG.out.1 (Nat.le_trans HG.out.2.1 (by decide)) A3 c3 A4 c4 ls A cc w W HH.out.1 HH.out.2.1 HH.out.2.2 hok HL5.out.1 (HBw.out.trans (hb.mono HBw.out.size)))
      have HC9 := Lib.hid (HBr.out)
      have HSM : Hid (∀ W, Below wr.heap.size wr W → Calls Tryd.prog 41 #[.int .i64 id, .agg #[.int .i64 x.f0, .int .i64 x.f1, .bool x.f2, .slice A5 x.f3.length c5, .slice A6 x.f4.length c6], .slice A9 (ls.map dS).length c9] W (Got W y0)) := Lib.hid (fun W hb => by
        rw [hy0]
        have hb6 : Below W6.heap.size W6 W := HBr.out.trans (hb.mono HBr.out.size)
        exact sMsg_any id HL5.out.2.2 x A5 c5 A6 c6 (ls.map dS) A9 c9 W HC6.out.2.1 (Kd.C_below HC6.out.1 hb6) HC6.out.2.2.2 (Kd.C_below HC6.out.2.2.1 hb6) l9 (Kd.C_below hC9 hb))
      obtain ⟨hms, hmd⟩ := msg_size id HL5.out.2.2 p ⟨HG.out.2.1, HG.out.2.2⟩ ls hok HL5.out.1
      have halk : alk (mir p0) y0 := by
        rw [hp0, hy0, HXP.out]
        exact alk_msg id p _ _ (alkL_dC ls hok (fun c hc => (HRG.out c hc).2))
      rw [← hp0] at hms hmd
      have HSA : Hid (∀ (A3 : Option Addr) (c3 : Nat) (A4 : Option Addr) (c4 : Nat) (B3 : Option Addr) (d3 : Nat) (B4 : Option Addr) (d4 : Nat) (W : World), p0.f3.length ≤ c3 → (Kd.int .u8).C W A3 p0.f3.length p0.f3 → p0.f4.length ≤ c4 → k27.C W A4 p0.f4.length p0.f4 → y0.f3.length ≤ d3 → (Kd.int .u8).C W B3 y0.f3.length y0.f3 → y0.f4.length ≤ d4 → k33.C W B4 y0.f4.length y0.f4 →
          Calls Tryd.prog 13 #[.agg #[.int .i64 p0.f0, .int .i64 p0.f1, .bool p0.f2, .slice A3 p0.f3.length c3, .slice A4 p0.f4.length c4], .bool true, .agg #[.int .i64 y0.f0, .int .i64 y0.f1, .bool y0.f2, .slice B3 y0.f3.length d3, .slice B4 y0.f4.length d4]] W fun e w' => e = .returned (.bool true) ∧ Below W.heap.size W w') :=
        Lib.hid (fun A3 c3 A4 c4 B3 d3 B4 d4 W q1 q2 q3 q4 q5 q6 q7 q8 => same2_any p0 hmd hms A3 c3 A4 c4 y0 halk B3 d3 B4 d4 W q1 q2 q3 q4 q5 q6 q7 q8)
      have HXr := Lib.hid (blk_below HX6.out HBr.out)
      have HYr := Lib.hid (blk_below HY6.out HBr.out)
      have b0 : wr.cell? ⟨w.heap.size, 0, none⟩ = some (.int .i64 p.f0) := blk_cell HXr.out 0
      have b1 : wr.cell? ⟨w.heap.size, 1, none⟩ = some (.int .i64 p.f1) := blk_cell HXr.out 1
      have b2 : wr.cell? ⟨w.heap.size, 2, none⟩ = some (.bool p.f2) := blk_cell HXr.out 2
      have b3 : wr.cell? ⟨w.heap.size, 3, none⟩ = some (.slice A3 p.f3.length c3) := blk_cell HXr.out 3
      have b4 : wr.cell? ⟨w.heap.size, 4, none⟩ = some (.slice A4 p.f4.length c4) := blk_cell HXr.out 4
      obtain ⟨n9, hn9⟩ : ∃ n9, n9 = (ls.map dS).length := ⟨_, rfl⟩
      rw [← hn9] at HSM ⊢
      clear hok hcs hC9 hy0 hp0 hms hmd halk l9 hn9 HN HOKS HC9 HH
      go_upto_region 16 with (first
        | (go_at_call 40
           with_reducible refine (HIM.out wr (Below.refl _ _)).mono ?_
           rintro e R0 ⟨E3, q3, E4, q4, rfl, l3, h3, l4, h4, hB2⟩
           have HBR := Lib.hid hB2
           have HF := Lib.hid (And.intro l3 (And.intro (Kd.F_now h3) (And.intro l4 (Kd.F_now h4))))
           clear l3 h3 l4 h4 hB2))
      obtain ⟨V0, hV⟩ : ∃ V, V = R0.alloc (.cells #[.int .i64 p0.f0, .int .i64 p0.f1, .bool p0.f2, .slice E3 p0.f3.length q3, .slice E4 p0.f4.length q4] 27) := ⟨_, rfl⟩
      rw [← hV]
      have hbV : Below R0.heap.size R0 V0 := by rw [hV]; exact below_alloc (Below.refl _ _) _
      have hXV : V0.heap[R0.heap.size]? = some (.cells #[.int .i64 p0.f0, .int .i64 p0.f1, .bool p0.f2, .slice E3 p0.f3.length q3, .slice E4 p0.f4.length q4] 27 (0, 0)) := by rw [hV]; exact blk_new _ _
      clear hV
      have HXV : Hid (V0.drew.heap[R0.heap.size]? = some (.cells #[.int .i64 p0.f0, .int .i64 p0.f1, .bool p0.f2, .slice E3 p0.f3.length q3, .slice E4 p0.f4.length q4] 27 (0, 0))) := Lib.hid hXV
      have HBV : Hid (Below wr.heap.size wr V0.drew) := Lib.hid (HBR.out.trans (hbV.drew.mono HBR.out.size))
      have HYV : Hid (V0.drew.heap[g7]? = some (.cells #[.int .i64 x.f0, .int .i64 x.f1, .bool x.f2, .slice A5 x.f3.length c5, .slice A6 x.f4.length c6] 33 (0, 0))) := Lib.hid (blk_below HYr.out HBV.out)
      have HFV : Hid (p0.f3.length ≤ q3 ∧ (Kd.int .u8).C V0.drew E3 p0.f3.length p0.f3 ∧ p0.f4.length ≤ q4 ∧ k27.C V0.drew E4 p0.f4.length p0.f4) := Lib.hid ⟨HF.out.1, Kd.C_below HF.out.2.1 hbV.drew, HF.out.2.2.1, Kd.C_below HF.out.2.2.2 hbV.drew⟩
      clear hbV hXV b0 b1 b2 b3 b4
      refine start_ (n := 8) (S := fun w' => w'.cell? ⟨R0.heap.size, 0, none⟩ = some (.int .i64 p0.f0) ∧ w'.cell? ⟨R0.heap.size, 1, none⟩ = some (.int .i64 p0.f1) ∧ w'.cell? ⟨R0.heap.size, 2, none⟩ = some (.bool p0.f2) ∧ w'.cell? ⟨R0.heap.size, 3, none⟩ = some (.slice E3 p0.f3.length q3) ∧ w'.cell? ⟨R0.heap.size, 4, none⟩ = some (.slice E4 p0.f4.length q4) ∧ w'.cell? ⟨g7, 0, none⟩ = some (.int .i64 x.f0) ∧ w'.cell? ⟨g7, 1, none⟩ = some (.int .i64 x.f1) ∧ w'.cell? ⟨g7, 2, none⟩ = some (.bool x.f2) ∧ w'.cell? ⟨g7, 3, none⟩ = some (.slice A5 x.f3.length c5) ∧ w'.cell? ⟨g7, 4, none⟩ = some (.slice A6 x.f4.length c6)) (ds := []) #[nN,nN,nN,nN,nN,nN,nN,nN] (by kernel_rfl) rfl rfl ⟨blk_cell (HXV.out) 0, blk_cell (HXV.out) 1, blk_cell (HXV.out) 2, blk_cell (HXV.out) 3, blk_cell (HXV.out) 4, blk_cell (HYV.out) 0, blk_cell (HYV.out) 1, blk_cell (HYV.out) 2, blk_cell (HYV.out) 3, blk_cell (HYV.out) 4⟩ (fun hHeld => ?_)
      refine pure_ (i := 1) (N := some 74) (v := ?_) (a' := ?_) #[nN,yY,nN,nN,nN,nN,nN,nN] rfl rfl (by kernel_rfl) (fun _ _ _ h => h) (Or.inl ⟨by rfl, ?_⟩) ?_ ?_
      rotate_left
      · intro w'
        go_simp
        with_reducible rfl
      rotate_left
      · simp only [Act.put, List.setIfInBounds_toArray, List.set_cons_zero, List.set_cons_succ, i64_w, i32_w]
        rfl
      refine pure_ (i := 2) (N := some 75) (v := ?_) (a' := ?_) #[nN,yY,yY,nN,nN,nN,nN,nN] rfl rfl (by kernel_rfl) (fun _ _ _ h => h) (Or.inl ⟨by rfl, ?_⟩) ?_ ?_
      rotate_left
      · intro w'
        go_simp
        with_reducible rfl
      rotate_left
      · simp only [Act.put, List.setIfInBounds_toArray, List.set_cons_zero, List.set_cons_succ, i64_w, i32_w]
        rfl
      refine pure_ (i := 4) (N := some 77) (v := ?_) (a' := ?_) #[nN,yY,yY,nN,yY,nN,nN,nN] rfl rfl (by kernel_rfl) (fun _ _ _ h => h) (Or.inl ⟨by rfl, ?_⟩) ?_ ?_
      rotate_left
      · intro w'
        go_simp
        with_reducible rfl
      rotate_left
      · simp only [Act.put, List.setIfInBounds_toArray, List.set_cons_zero, List.set_cons_succ, i64_w, i32_w]
        rfl
      refine take_ (i := 0) (N := some 73) (v := ?_) (a' := ?_) #[yY,yY,yY,nN,yY,nN,nN,nN] rfl rfl (by kernel_rfl) (fun _ _ _ h => h) (Or.inl ⟨by rfl, ?_⟩) hHeld ?_ ?_
      rotate_left
      · rintro w' ⟨s0, s1, s2, s3, s4, s5, s6, s7, s8, s9⟩
        go_simp
        with_reducible rfl
      rotate_left
      · simp only [Act.put, List.setIfInBounds_toArray, List.set_cons_zero, List.set_cons_succ, i64_w, i32_w]
        rfl
      refine take_ (i := 3) (N := some 76) (v := ?_) (a' := ?_) #[yY,yY,yY,yY,yY,nN,nN,nN] rfl rfl (by kernel_rfl) (fun _ _ _ h => h) (Or.inl ⟨by rfl, ?_⟩) hHeld ?_ ?_
      rotate_left
      · rintro w' ⟨s0, s1, s2, s3, s4, s5, s6, s7, s8, s9⟩
        go_simp
        with_reducible rfl
      rotate_left
      · simp only [Act.put, List.setIfInBounds_toArray, List.set_cons_zero, List.set_cons_succ, i64_w, i32_w]
        rfl
      refine one_ (i := 5) (N := some 78) #[yY,yY,yY,yY,yY,yY,nN,nN] rfl rfl (by kernel_rfl) (by decide) (fun K hK => ?_)
      refine goes_ Tryd.func41 (by kernel_rfl) rfl #[.int .i64 id, .agg #[.int .i64 x.f0, .int .i64 x.f1, .bool x.f2, .slice A5 x.f3.length c5, .slice A6 x.f4.length c6], .slice A9 n9 c9] (by rfl) rfl rfl (by simp only [List.map_toArray, List.map_cons, List.map_nil]; rfl) ?_
      with_reducible refine (HSM.out _ HBV.out).mono ?_
      rintro e S0 ⟨B3, d3, B4, d4, rfl, m3, g3, m4, g4, hB5⟩
      refine ⟨_, rfl, ?_⟩
      have HBS := Lib.hid (HBV.out.trans (hB5.mono HBV.out.size))
      have HXS := Lib.hid (blk_below HXV.out hB5)
      have HYS := Lib.hid (blk_below HYV.out hB5)
      have HQ := Lib.hid (HSA.out E3 q3 E4 q4 B3 d3 B4 d4 S0 HFV.out.1 (Kd.C_below HFV.out.2.1 hB5) HFV.out.2.2.1 (Kd.C_below HFV.out.2.2.2 hB5) m3 g3 m4 g4)
      clear m3 g3 m4 g4 hB5
      refine hK.out _ _ ⟨blk_cell (HXS.out) 0, blk_cell (HXS.out) 1, blk_cell (HXS.out) 2, blk_cell (HXS.out) 3, blk_cell (HXS.out) 4, blk_cell (HYS.out) 0, blk_cell (HYS.out) 1, blk_cell (HYS.out) 2, blk_cell (HYS.out) 3, blk_cell (HYS.out) 4⟩ (fun hHeld => ?_)
      clear hK K
      refine norm_ (a' := ?_) ?_ ?_
      rotate_left
      · show Act.put _ (some 78) _ = _
        simp only [Act.put, List.setIfInBounds_toArray, List.set_cons_zero, List.set_cons_succ, i64_w, i32_w]
        rfl
      refine one_ (i := 6) (N := some 79) #[yY,yY,yY,yY,yY,yY,yY,nN] rfl rfl (by kernel_rfl) (by decide) (fun K hK => ?_)
      refine goes_ Tryd.func13 (by kernel_rfl) rfl #[.agg #[.int .i64 p0.f0, .int .i64 p0.f1, .bool p0.f2, .slice E3 p0.f3.length q3, .slice E4 p0.f4.length q4], .bool true, .agg #[.int .i64 y0.f0, .int .i64 y0.f1, .bool y0.f2, .slice B3 y0.f3.length d3, .slice B4 y0.f4.length d4]] (by rfl) rfl rfl (by simp only [List.map_toArray, List.map_cons, List.map_nil]; rfl) ?_
      with_reducible refine (HQ.out).mono ?_
      rintro e Q0 ⟨rfl, hB6⟩
      refine ⟨_, rfl, ?_⟩
      have HBQ := Lib.hid (HBS.out.trans (hB6.mono HBS.out.size))
      have HXQ := Lib.hid (blk_below HXS.out hB6)
      have HYQ := Lib.hid (blk_below HYS.out hB6)
      clear hB6
      refine hK.out _ _ ⟨blk_cell (HXQ.out) 0, blk_cell (HXQ.out) 1, blk_cell (HXQ.out) 2, blk_cell (HXQ.out) 3, blk_cell (HXQ.out) 4, blk_cell (HYQ.out) 0, blk_cell (HYQ.out) 1, blk_cell (HYQ.out) 2, blk_cell (HYQ.out) 3, blk_cell (HYQ.out) 4⟩ (fun hHeld => ?_)
      clear hK K
      refine norm_ (a' := ?_) ?_ ?_
      rotate_left
      · show Act.put _ (some 79) _ = _
        simp only [Act.put, List.setIfInBounds_toArray, List.set_cons_zero, List.set_cons_succ, i64_w, i32_w]
        rfl
      refine pure_ (i := 7) (N := some 6) (v := ?_) (a' := ?_) #[yY,yY,yY,yY,yY,yY,yY,yY] rfl rfl (by kernel_rfl) (fun _ _ _ h => h) (Or.inl ⟨by rfl, ?_⟩) ?_ ?_
      rotate_left
      · intro w'
        go_simp
        with_reducible rfl
      rotate_left
      · simp only [Act.put, List.setIfInBounds_toArray, List.set_cons_zero, List.set_cons_succ, i64_w, i32_w]
        rfl
      refine done_ (by kernel_rfl) ?_
      go_wp2
      go_ret
      exact ⟨rfl, HBw.out.trans (HBQ.out.mono HBw.out.size)⟩
end Go.Proofs.YtbmcpjkhnhbjdaaDoor.Ber
namespace Go.Proofs.YtbmcpjkhnhbjdaaDoor.Open
open Go.RowKit Go.Proofs.YtbmcpjkhnhbjdaaDoorW.PrintWords
set_option linter.unusedVariables false
set_option linter.unusedSimpArgs false

section
variable {H : Type} (enc : TypeId × Value → H) (P : Program) (W : World)

/-- Whatever of type t reads as a datum within so much fuel is of kind k. -/
def Opens {α : Type} (N : Nat) (t : TypeId) (k : Kd α) (q : α → Prop) : Prop :=
  ∀ fuel, fuel ≤ N → ∀ (cs : List Value) (d : DataW H) (p : List MemPlace), DataW.trod enc P W 0 (fun _ => true) true fuel t cs = some (d, p) → (∀ x ∈ DataW.weights P t d, x ≤ reachBytes) → ∃ x, k.K W x cs ∧ q x
end
section
variable {H : Type} {enc : TypeId × Value → H} {P : Program} {W : World}

theorem Opens.down {α : Type} {N N' : Nat} {t : TypeId} {k : Kd α} {q : α → Prop} (h : Opens enc P W N t k q) (hN : N' ≤ N) : Opens enc P W N' t k q := fun fuel hf => h fuel (Nat.le_trans hf hN)
theorem Opens.imp {α : Type} {N : Nat} {t : TypeId} {k : Kd α} {q q' : α → Prop} (h : Opens enc P W N t k q) (hq : ∀ x, q x → q' x) : Opens enc P W N t k q' := fun fuel hf cs d p ht hw => by
  obtain ⟨x, hx, hqx⟩ := h fuel hf cs d p ht hw
  exact ⟨x, hx, hq x hqx⟩
theorem Opens.iso {α β : Type} {N : Nat} {t : TypeId} {k : Kd α} {q : α → Prop} (h : Opens enc P W N t k q) (f : β → α) (g : α → β) (hfg : ∀ a, f (g a) = a) : Opens enc P W N t (Kd.iso k f) (fun y => q (f y)) := fun fuel hf cs d p ht hw => by
  obtain ⟨x, hx, hqx⟩ := h fuel hf cs d p ht hw
  exact ⟨g x, (by show k.K W (f (g x)) cs; rw [hfg]; exact hx), (by show q (f (g x)); rw [hfg]; exact hqx)⟩

theorem opens_int (N : Nat) {t : TypeId} {k : IntKind} (hu : P.underlying t = some (.int k)) : Opens enc P W N t (Kd.int k) (fun x => (Lit.int k x).wf = true) := by
  intro fuel _ cs d p ht _
  cases fuel with
  | zero => simp [DataW.trod] at ht
  | succ fuel =>
    unfold DataW.trod at ht
    rw [hu] at ht
    split at ht <;> try (simp_all; done)
    rename_i k' k'' n h1
    simp only [Option.some.injEq, TypeDesc.int.injEq] at h1
    subst h1
    split at ht
    · rename_i h2
      obtain ⟨rfl, h3⟩ := h2
      exact ⟨n, rfl, h3⟩
    · cases ht

theorem opens_bool (N : Nat) {t : TypeId} (hu : P.underlying t = some .bool) : Opens enc P W N t Kd.bool (fun _ => True) := by
  intro fuel _ cs d p ht _
  cases fuel with
  | zero => simp [DataW.trod] at ht
  | succ fuel =>
    unfold DataW.trod at ht
    rw [hu] at ht
    split at ht <;> try (simp_all; done)
    rename_i b h1
    exact ⟨b, rfl, trivial⟩

theorem opens_string (N : Nat) {t : TypeId} (hu : P.underlying t = some .string) : Opens enc P W N t Kd.string (fun s => s.size ≤ reachBytes) := by
  intro fuel _ cs d p ht hw
  cases fuel with
  | zero => simp [DataW.trod] at ht
  | succ fuel =>
    unfold DataW.trod at ht
    rw [hu] at ht
    split at ht <;> try (simp_all; done)
    rename_i s h1
    split at ht
    · simp only [Option.some.injEq, Prod.mk.injEq] at ht
      obtain ⟨rfl, rfl⟩ := ht
      have := hw s.data.toList.length (by simp [DataW.weights])
      rw [Array.length_toList] at this
      exact ⟨s, rfl, this⟩
    · cases ht

theorem weightsAll_mem {e : TypeId} : ∀ {ds : List (DataW H)} {d : DataW H} {x : Nat}, d ∈ ds → x ∈ DataW.weights P e d → x ∈ DataW.weightsAll P e ds
  | d0 :: r, d, x, hd, hx => by
    rw [DataW.weightsAll, List.mem_append]
    rcases List.mem_cons.1 hd with rfl | hd
    · exact .inl hx
    · exact .inr (weightsAll_mem hd hx)

theorem Opens.slice {α : Type} {N : Nat} {t e : TypeId} {k : Kd α} {q : α → Prop} (h : Opens enc P W N e k q) (hu : P.underlying t = some (.slice e)) (hsz : k.sz = P.cellsOf e) (hb : 1 ≤ P.bytesOf e) :
    Opens enc P W (N + 1) t (Kd.slice e k) (fun xs => xs.length ≤ reachBytes ∧ ∀ x ∈ xs, q x) := by
  intro fuel hf cs d p ht hw
  cases fuel with
  | zero => simp [DataW.trod] at ht
  | succ fuel =>
    unfold DataW.trod at ht
    rw [hu] at ht
    split at ht <;> try (simp_all; done)
    · exact ⟨[], ⟨none, 0, rfl, Nat.le_refl _, by simp, by simp, fun h0 => absurd h0 (by simp)⟩, Nat.zero_le _, fun x hx => by cases hx⟩
    · rename_i e' a len cap h1
      simp only [Option.some.injEq, TypeDesc.slice.injEq] at h1
      subst h1
      dsimp only at ht
      split at ht
      case isFalse => cases ht
      rename_i h2
      rw [Option.bind_eq_some_iff] at ht
      obtain ⟨elems, he, ht⟩ := ht
      rw [Option.map_eq_some_iff] at ht
      obtain ⟨rest, hr, ht⟩ := ht
      simp only [Prod.mk.injEq] at ht
      obtain ⟨rfl, rfl⟩ := ht
      have hlen : elems.length = len := by simpa using mapM_some_length he
      have hall : ∀ i, i < len → ∃ x c, c.length = k.sz ∧ k.K W x c ∧ q x ∧ ∀ j u, c[j]? = some u → W.cell? (a.add (i * k.sz + j)) = some u := by
        intro i hi
        have hg := mapM_some_get he i i (by simp [hi])
        obtain ⟨y, hy⟩ : ∃ y, elems[i]? = some y := ⟨elems[i]'(by omega), by simp [hlen, hi]⟩
        rw [hy, Option.bind_eq_some_iff] at hg
        obtain ⟨c, hc, hd⟩ := hg
        obtain ⟨_, hcl, hcc⟩ := World.cells?_some hc
        obtain ⟨yd, yp⟩ := y
        have hwy : ∀ x ∈ DataW.weights P e yd, x ≤ reachBytes := fun x hx => hw x (by
          rw [DataW.weights, hu]
          refine List.mem_cons_of_mem _ (List.mem_append.2 (.inl (weightsAll_mem (List.mem_map.2 ⟨(yd, yp), List.mem_of_getElem? hy, rfl⟩) hx))))
        obtain ⟨x, hx, hq⟩ := h fuel (by omega) c yd yp hd hwy
        refine ⟨x, c, by rw [hcl, hsz], hx, hq, fun j u hu2 => ?_⟩
        have hj : j < P.cellsOf e := by
          rw [← hcl]
          exact (List.getElem?_eq_some_iff.1 hu2).1
        rw [hsz, ← add_add]
        rw [hcc j hj]
        exact hu2
      have hL : ∃ xs : List α, xs.length = len ∧ (∀ x ∈ xs, q x) ∧ ∀ i x, xs[i]? = some x → ∃ c, c.length = k.sz ∧ k.K W x c ∧ ∀ j u, c[j]? = some u → W.cell? (a.add (i * k.sz + j)) = some u := by
        have build : ∀ m, m ≤ len → ∃ xs : List α, xs.length = m ∧ (∀ x ∈ xs, q x) ∧ ∀ i x, xs[i]? = some x → ∃ c, c.length = k.sz ∧ k.K W x c ∧ ∀ j u, c[j]? = some u → W.cell? (a.add (i * k.sz + j)) = some u := by
          intro m
          induction m with
          | zero => intro _; exact ⟨[], rfl, (fun x hx => by cases hx), (fun i x hx => by simp at hx)⟩
          | succ m ih =>
            intro hm
            obtain ⟨xs, h1, h2, h3⟩ := ih (by omega)
            obtain ⟨x, c, hc, hx, hq, hcell⟩ := hall m (by omega)
            refine ⟨xs ++ [x], by simp [h1], ?_, ?_⟩
            · intro y hy
              rcases List.mem_append.1 hy with hy | hy
              · exact h2 y hy
              · rw [List.mem_singleton.1 hy]; exact hq
            · intro i y hy
              by_cases hi : i < xs.length
              · rw [List.getElem?_append_left hi] at hy
                exact h3 i y hy
              · rw [List.getElem?_append_right (by omega)] at hy
                have : i = m := by
                  have := (List.getElem?_eq_some_iff.1 hy).1
                  simp at this
                  omega
                subst this
                rw [h1, Nat.sub_self] at hy
                simp at hy
                subst hy
                exact ⟨c, hc, hx, hcell⟩
        exact build len (Nat.le_refl _)
      obtain ⟨xs, h3, h4, h5⟩ := hL
      have hwl := hw ((elems.length + rest.length) * P.bytesOf e) (by
        rw [DataW.weights, hu]
        simp)
      have hle : xs.length ≤ reachBytes := by
        rw [h3, ← hlen]
        refine Nat.le_trans ?_ hwl
        refine Nat.le_trans (Nat.le_add_right _ rest.length) ?_
        exact Nat.le_mul_of_pos_right _ hb
      have hr63 : reachBytes ≤ 9223372036854775807 := by decide
      exact ⟨xs, ⟨some a, cap, by rw [h3], by rw [h3]; exact h2.2.1, rfl, Nat.le_trans hle hr63, fun _ => ⟨a, rfl, h5⟩⟩, hle, h4⟩

/-- .. the fields of a struct from the cell o on. -/
def OpensFrom {α : Type} (enc : TypeId × Value → H) (P : Program) (W : World) (N : Nat) (o m : Nat) (fs : List Field) (k : Kd α) (q : α → Prop) : Prop :=
  ∀ fuel, fuel ≤ N → ∀ (cs : List Value) (xs : List (DataW H × List MemPlace)), cs.length = m → (fs.mapM fun f => DataW.trod enc P W 0 (fun _ => true) true fuel f.type ((cs.drop f.offset).take (P.cellsOf f.type))) = some xs →
    (∀ x ∈ DataW.weightsEach P (fs.map (·.type)) (xs.map (·.1)), x ≤ reachBytes) → ∃ x, k.K W x (cs.drop o) ∧ q x

theorem OpensFrom.one {α : Type} {N o m : Nat} {f : Field} {k : Kd α} {q : α → Prop} (h : Opens enc P W N f.type k q) (ho : f.offset = o) (hm : m = o + P.cellsOf f.type) : OpensFrom enc P W N o m [f] k q := by
  intro fuel hf cs xs hl ht hw
  rw [List.mapM_cons] at ht
  simp only [List.mapM_nil, bind, pure, Option.bind_eq_some_iff] at ht
  obtain ⟨y, hy, _, h0, h1⟩ := ht
  obtain rfl := (Option.some.inj h0)
  obtain rfl := (Option.some.inj h1)
  obtain ⟨x, hx, hq⟩ := h fuel hf _ y.1 y.2 hy (fun z hz => hw z (by simp [DataW.weightsEach, hz]))
  refine ⟨x, ?_, hq⟩
  rw [ho, List.take_of_length_le (by rw [List.length_drop]; omega)] at hx
  exact hx

theorem OpensFrom.cons {α β : Type} {N o m : Nat} {f : Field} {fs : List Field} {k : Kd α} {k2 : Kd β} {q : α → Prop} {q2 : β → Prop} (h : Opens enc P W N f.type k q) (h2 : OpensFrom enc P W N (o + P.cellsOf f.type) m fs k2 q2) (ho : f.offset = o) :
    OpensFrom enc P W N o m (f :: fs) (Kd.pair k k2) (fun x => q x.1 ∧ q2 x.2) := by
  intro fuel hf cs xs hl ht hw
  rw [List.mapM_cons] at ht
  simp only [bind, pure, Option.bind_eq_some_iff] at ht
  obtain ⟨y, hy, ys, hys, ht⟩ := ht
  simp only [Option.some.injEq] at ht
  subst ht
  obtain ⟨x, hx, hq⟩ := h fuel hf _ y.1 y.2 hy (fun z hz => hw z (by simp [DataW.weightsEach, hz]))
  obtain ⟨x2, hx2, hq2⟩ := h2 fuel hf cs ys hl hys (fun z hz => hw z (by simp [DataW.weightsEach, hz]))
  refine ⟨(x, x2), ⟨_, _, ?_, hx, hx2⟩, hq, hq2⟩
  rw [ho, ← List.drop_drop, List.take_append_drop]

theorem Opens.struct {α : Type} {N : Nat} {t : TypeId} {fs : Array Field} {k : Kd α} {q : α → Prop} (hu : P.underlying t = some (.struct fs)) (h : OpensFrom enc P W N 0 (P.cellsOf t) fs.toList k q) : Opens enc P W (N + 1) t k q := by
  intro fuel hf cs d p ht hw
  cases fuel with
  | zero => simp [DataW.trod] at ht
  | succ fuel =>
    unfold DataW.trod at ht
    rw [hu] at ht
    split at ht <;> try (simp_all; done)
    rename_i fs' h1
    simp only [Option.some.injEq, TypeDesc.struct.injEq] at h1
    subst h1
    split at ht
    case isFalse => cases ht
    rename_i hl
    rw [Option.map_eq_some_iff] at ht
    obtain ⟨xs, hxs, ht⟩ := ht
    simp only [Prod.mk.injEq] at ht
    obtain ⟨rfl, rfl⟩ := ht
    rw [DataW.weights, hu] at hw
    have := h fuel (by omega) _ xs hl hxs hw
    simpa using this

theorem Opens.fix {α : Type} {t : TypeId} {F : Kd α → Kd α} {sz : Nat} {E : List Nat} {hs : ∀ n, (Kd.upto F sz E n).sz = sz} {hE : ∀ n q, q ∈ (Kd.upto F sz E n).E → q ∈ E} {q : α → Prop}
    (step : ∀ N (k : Kd α), k.sz = sz → Opens enc P W N t k q → Opens enc P W (N + 1) t (F k) q) (N : Nat) : Opens enc P W N t (Kd.fix F sz E hs hE) q := by
  have : ∀ N, ∃ n, Opens enc P W N t (Kd.upto F sz E n) q := by
    intro N
    induction N with
    | zero =>
      refine ⟨0, fun fuel hf cs d p ht _ => ?_⟩
      obtain rfl : fuel = 0 := by omega
      simp [DataW.trod] at ht
    | succ N ih =>
      obtain ⟨n, hn⟩ := ih
      exact ⟨n + 1, step N _ (hs n) hn⟩
  obtain ⟨n, hn⟩ := this N
  intro fuel hf cs d p ht hw
  obtain ⟨x, hx, hq⟩ := hn fuel hf cs d p ht hw
  exact ⟨x, ⟨n, hx⟩, hq⟩
end
end Go.Proofs.YtbmcpjkhnhbjdaaDoor.Open
namespace Go.Proofs.YtbmcpjkhnhbjdaaDoor.Open
open Go.RowKit Go.Proofs.YtbmcpjkhnhbjdaaDoorW.PrintWords Go.Proofs.YtbmcpjkhnhbjdaaDoor.PFnEncode Go.Proofs.YtbmcpjkhnhbjdaaDoor.Within
set_option linter.unusedVariables false
set_option linter.unusedSimpArgs false
section
variable {H : Type} {enc : TypeId × Value → H} {W : World}

theorem opens25 (N : Nat) : Opens enc Tryd.prog W N 27 k27 (fun x => lens x = true) := by
  refine Opens.fix (F := F27) (fun N k hsz h => ?_) N
  have hs : Opens enc Tryd.prog W (N + 1) 25 (Kd.slice 27 k) _ := Opens.slice h Tryd.underlying25 (hsz.trans (by kernel_rfl)) (of_decide_eq_true (by kernel_rfl))
  have hb : Opens enc Tryd.prog W (N + 1) 24 (Kd.slice 5 (Kd.int .u8)) _ := Opens.slice (opens_int N Tryd.underlying5) Tryd.underlying24 (by kernel_rfl) (of_decide_eq_true (by kernel_rfl))
  have hst := Opens.struct (P := Tryd.prog) Tryd.underlying27 (OpensFrom.cons (opens_int (N + 1) (k := .i64) Tryd.underlying3)
    (OpensFrom.cons (opens_int (N + 1) (k := .i64) Tryd.underlying3)
      (OpensFrom.cons (opens_bool (N + 1) Tryd.underlying4)
        (OpensFrom.cons hb (OpensFrom.one hs (by kernel_rfl) (by kernel_rfl)) (by kernel_rfl)) (by kernel_rfl)) (by kernel_rfl)) (by kernel_rfl))
  refine ((hst.iso (fun x : S27 => (x.f0, x.f1, x.f2, x.f3, x.f4)) (fun y => ⟨y.1, y.2.1, y.2.2.1, y.2.2.2.1, y.2.2.2.2⟩) (fun _ => rfl)).down (by omega)).imp ?_
  rintro ⟨a, b, c, d, l⟩ ⟨_, _, _, ⟨h3, _⟩, h4, h5⟩
  rw [lens, lensL_all]
  simp only [Bool.and_eq_true, decide_eq_true_eq]
  exact ⟨⟨h3, h4⟩, List.all_eq_true.2 h5⟩
end
end Go.Proofs.YtbmcpjkhnhbjdaaDoor.Open
namespace Go.Proofs.YtbmcpjkhnhbjdaaDoor.Open
open Go.RowKit Go.Proofs.YtbmcpjkhnhbjdaaDoorW.PrintWords Go.Proofs.YtbmcpjkhnhbjdaaDoor.PFnEncode
set_option linter.unusedVariables false
set_option linter.unusedSimpArgs false
section
variable {H : Type} {enc : TypeId × Value → H} {W : World}
theorem opens_ctl (N : Nat) : Opens enc Tryd.prog W (N + 2) 79 k79 (fun c => (-9223372036854775808 ≤ c.f4 ∧ c.f4 ≤ 9223372036854775807) ∧ ∀ x, x ∈ c.f5 → 0 ≤ x ∧ x < 256) := by
  have hb : Opens enc Tryd.prog W (N + 1) 24 (Kd.slice 5 (Kd.int .u8)) _ := Opens.slice (opens_int N Tryd.underlying5) Tryd.underlying24 (by kernel_rfl) (of_decide_eq_true (by kernel_rfl))
  have hst := Opens.struct (P := Tryd.prog) (enc := enc) (W := W) Tryd.underlying79 (OpensFrom.cons (opens_int (N + 1) (k := .i64) Tryd.underlying3)
    (OpensFrom.cons (opens_string (N + 1) Tryd.underlying9)
      (OpensFrom.cons (opens_bool (N + 1) Tryd.underlying4)
        (OpensFrom.cons hb
          (OpensFrom.cons (opens_int (N + 1) (k := .i64) Tryd.underlying3) (OpensFrom.one hb (by kernel_rfl) (by kernel_rfl)) (by kernel_rfl)) (by kernel_rfl)) (by kernel_rfl)) (by kernel_rfl)) (by kernel_rfl))
  refine (hst.iso (fun x : S79 => (x.f0, x.f1, x.f2, x.f3, x.f4, x.f5)) (fun y => ⟨y.1, y.2.1, y.2.2.1, y.2.2.2.1, y.2.2.2.2.1, y.2.2.2.2.2⟩) (fun _ => rfl)).imp ?_
  rintro ⟨a, b, c, d, e, f⟩ ⟨_, _, _, _, h4, _, h5⟩
  refine ⟨by simpa [Lit.wf, IntKind.min, IntKind.max, IntKind.signed, IntKind.bits] using h4, fun x hx => ?_⟩
  have := h5 x hx
  simp only [Lit.wf, IntKind.min, IntKind.max, IntKind.signed, IntKind.bits, Bool.and_eq_true, decide_eq_true_eq] at this
  simp at this
  omega
theorem opensM (N : Nat) : Opens enc Tryd.prog W (N + 3) 73 (Kd.slice 79 k79) (fun l => l.length ≤ reachBytes ∧ ∀ c ∈ l, (-9223372036854775808 ≤ c.f4 ∧ c.f4 ≤ 9223372036854775807) ∧ ∀ x, x ∈ c.f5 → 0 ≤ x ∧ x < 256) :=
  Opens.slice (opens_ctl N) Tryd.underlying73 (by kernel_rfl) (of_decide_eq_true (by kernel_rfl))
end
end Go.Proofs.YtbmcpjkhnhbjdaaDoor.Open
