/- The law FnRename walked: whatever texts, it answers true. -/
import Derived.Test.YtbmcpjkhnhbjdaaDoorRenameA
import Derived.Test.YtbmcpjkhnhbjdaaDoorSRenameS
namespace Go.Proofs.YtbmcpjkhnhbjdaaDoor.Ber
open Go.RowKit Go.Proofs.YtbmcpjkhnhbjdaaDoorW.PrintWords Go.Proofs.YtbmcpjkhnhbjdaaDoor.PFnEncode Go.Proofs.YtbmcpjkhnhbjdaaDoor.Tree Go.Proofs.YtbmcpjkhnhbjdaaDoor.Buf Go.Proofs.YtbmcpjkhnhbjdaaDoor.Pk Go.Proofs.YtbmcpjkhnhbjdaaDoor.Within Go.Proofs.YtbmcpjkhnhbjdaaDoor.Num
set_option linter.unusedVariables false
set_option linter.unusedSimpArgs false

/-- a request to rename as data -/
def dRename (dn rd : ByteArray) (old : Bool) (sp : ByteArray) : S27 := ⟨1, 12, true, [], [⟨0, 4, false, bytesOf dn, []⟩, ⟨0, 4, false, bytesOf rd, []⟩, ⟨0, 1, false, [if old then 255 else 0], []⟩] ++ (if sp.toList.isEmpty then [] else [⟨2, 0, false, bytesOf sp, []⟩])⟩
theorem iRename_any (dn rd : ByteArray) (old : Bool) (sp : ByteArray) (w : World) (hdn : dn.size ≤ 1000000) (hrd : rd.size ≤ 1000000) (hsp : sp.size ≤ 1000000) :
    Calls Tryd.prog 15 #[.string dn, .string rd, .bool old, .string sp] w (OpRes w (dRename dn rd old sp)) := by
  cases hne : sp.toList.isEmpty with
  | true =>
    have e : dRename dn rd old sp = if old then dRenameTN dn rd sp else dRenameFN dn rd sp := by
      unfold dRename dRenameTN dRenameFN
      rw [hne]
      cases old <;> rfl
    rw [e]
    cases old with
    | true => exact iRenameTN_any dn rd sp w hdn hrd hsp hne
    | false => exact iRenameFN_any dn rd sp w hdn hrd hsp hne
  | false =>
    have e : dRename dn rd old sp = if old then dRenameTS dn rd sp else dRenameFS dn rd sp := by
      unfold dRename dRenameTS dRenameFS
      rw [hne]
      cases old <;> rfl
    rw [e]
    cases old with
    | true => exact iRenameTS_any dn rd sp w hdn hrd hsp hne
    | false => exact iRenameFS_any dn rd sp w hdn hrd hsp hne

theorem mir_Rename (dn rd : ByteArray) (old : Bool) (sp : ByteArray) : mir (dRename dn rd old sp) = tOp 12 (lRename dn rd old sp) := by
  unfold dRename tOp lRename tO tB
  cases sp.toList.isEmpty <;> simp [mir, mirL]
theorem dp_Rename (dn rd : ByteArray) (old : Bool) (sp : ByteArray) : tdp (mir (dRename dn rd old sp)) ≤ 60 := by
  rw [mir_Rename]
  unfold tOp lRename tO tB
  cases sp.toList.isEmpty <;> simp [tdp, tdpL]
theorem sz_Rename (dn rd : ByteArray) (old : Bool) (sp : ByteArray) (hdn : dn.size ≤ 200) (hrd : rd.size ≤ 200) (hsp : sp.size ≤ 200) : tsize (mir (dRename dn rd old sp)) ≤ 200000 := by
  rw [mir_Rename]
  unfold tOp lRename tO tB
  cases sp.toList.isEmpty <;> simp [tsize, tsizeL, bytesOf_length] <;> omega
set_option maxHeartbeats 3200000 in
set_option maxRecDepth 100000 in
theorem fnRename_any (dn rd : ByteArray) (old : Bool) (sp : ByteArray) (w : World) :
    Calls Tryd.prog 4 #[.string dn, .string rd, .bool old, .string sp] w fun e w' => e = .returned (.bool true) ∧ Below w.heap.size w w' := by
  have HB := Lib.hid (Below.refl w.heap.size w)
  by_cases h0 : 2147483647 < dn.size
  · have e1 : decide (2147483647 < (dn.size : Int)) = true := decide_eq_true (by omega)
    have e2 : decide (2147483647 < dn.size) = true := decide_eq_true h0
    clear h0
    go_enter Tryd.func4, Tryd.ntmps4
    go_wp2
    go_ret
    exact ⟨rfl, HB.out⟩
  have e0_1 : decide (2147483647 < (dn.size : Int)) = false := decide_eq_false (by omega)
  have e0_2 : decide (2147483647 < dn.size) = false := decide_eq_false h0
  by_cases h1 : 2147483647 < rd.size
  · have e1 : decide (2147483647 < (rd.size : Int)) = true := decide_eq_true (by omega)
    have e2 : decide (2147483647 < rd.size) = true := decide_eq_true h1
    clear h0 h1
    go_enter Tryd.func4, Tryd.ntmps4
    go_wp2
    go_ret
    exact ⟨rfl, HB.out⟩
  have e1_1 : decide (2147483647 < (rd.size : Int)) = false := decide_eq_false (by omega)
  have e1_2 : decide (2147483647 < rd.size) = false := decide_eq_false h1
  by_cases h2 : 2147483647 < sp.size
  · have e1 : decide (2147483647 < (sp.size : Int)) = true := decide_eq_true (by omega)
    have e2 : decide (2147483647 < sp.size) = true := decide_eq_true h2
    clear h0 h1 h2
    go_enter Tryd.func4, Tryd.ntmps4
    go_wp2
    go_ret
    exact ⟨rfl, HB.out⟩
  have e2_1 : decide (2147483647 < (sp.size : Int)) = false := decide_eq_false (by omega)
  have e2_2 : decide (2147483647 < sp.size) = false := decide_eq_false h2
  clear h0 h1 h2
  have HSH : Hid (∀ W, W = w.alloc (.cells #[.string dn, .string rd, .string sp] 9) → Calls Tryd.prog 10 #[.slice (some ⟨w.heap.size, 0, none⟩) 3 3] W fun e w' => e = .returned (.bool (shortT [dn, rd, sp])) ∧ Below w.heap.size w w') := Lib.hid (fun W hW => by
    have hb : W.heap[w.heap.size]? = some (.cells #[.string dn, .string rd, .string sp] 9 (0, 0)) := by rw [hW]; exact blk_new _ _
    have hB : Below w.heap.size w W := by rw [hW]; exact below_alloc (Below.refl _ _) _
    refine (short_any [dn, rd, sp] (some ⟨w.heap.size, 0, none⟩) 3 W (strs_block hb rfl (by simp)) (Nat.le_refl _) (by simp)).mono ?_
    rintro e w' ⟨he, hb'⟩
    exact ⟨he, hB.trans (hb'.mono hB.size)⟩)
  cases hsh : shortT [dn, rd, sp] with
  | false =>
    rw [hsh] at HSH
    clear hsh
    go_enter Tryd.func4, Tryd.ntmps4
    go_wp2_with (first
      | (go_at_call 10
         refine (HSH.out _ rfl).mono ?_
         rintro e W1 ⟨rfl, hB1⟩
         have HB1 := Lib.hid hB1
         clear hB1)
      | (go_at_call 11
         refine (works_any _).mono ?_
         rintro e W9 ⟨rfl, hB9⟩))
    go_ret
    exact ⟨rfl, HB1.out.trans (hB9.mono HB1.out.size)⟩
  | true =>
    rw [hsh] at HSH
    have hsz : dn.size ≤ 200 ∧ rd.size ≤ 200 ∧ sp.size ≤ 200 := by
      simp only [shortT, List.all_cons, List.all_nil, Bool.and_true, Bool.and_eq_true, decide_eq_true_eq] at hsh
      exact ⟨hsh.1.1, hsh.1.2.1, hsh.1.2.2⟩
    clear hsh
    have zdn := hsz.1
    have zrd := hsz.2.1
    have zsp := hsz.2.2
    clear hsz
    have HI0 : Hid (∀ W, Calls Tryd.prog 15 #[.string dn, .string rd, .bool old, .string sp] W (OpRes W (dRename dn rd old sp))) := Lib.hid (fun W => iRename_any dn rd old sp W (by omega) (by omega) (by omega))
    have HSP0 : Hid (∀ W, Calls Tryd.prog 16 #[.string dn, .string rd, .bool old, .string sp] W (Nw W.heap.size W (tOp 12 (lRename dn rd old sp)))) := Lib.hid (fun W => sRename_nw dn rd old sp W (by omega) (by omega) (by omega))
    have hmir0 := mir_Rename dn rd old sp
    have hdp0 := dp_Rename dn rd old sp
    have hts0 := sz_Rename dn rd old sp zdn zrd zsp
    obtain ⟨p0, hp0⟩ : ∃ p, p = dRename dn rd old sp := ⟨_, rfl⟩
    obtain ⟨y0, hy0⟩ : ∃ y, y = (tOp 12 (lRename dn rd old sp)) := ⟨_, rfl⟩
    rw [← hp0] at HI0 hmir0 hdp0 hts0
    rw [← hy0] at HSP0 hmir0
    have HSA0 : Hid (∀ (A3 : Option Addr) (c3 : Nat) (A4 : Option Addr) (c4 : Nat) (B3 : Option Addr) (d3 : Nat) (B4 : Option Addr) (d4 : Nat) (W : World), p0.f3.length ≤ c3 → (Kd.int .u8).C W A3 p0.f3.length p0.f3 → p0.f4.length ≤ c4 → k27.C W A4 p0.f4.length p0.f4 → y0.f3.length ≤ d3 → (Kd.int .u8).C W B3 y0.f3.length y0.f3 → y0.f4.length ≤ d4 → k33.C W B4 y0.f4.length y0.f4 →
        Calls Tryd.prog 13 #[.agg #[.int .i64 p0.f0, .int .i64 p0.f1, .bool p0.f2, .slice A3 p0.f3.length c3, .slice A4 p0.f4.length c4], .bool true, .agg #[.int .i64 y0.f0, .int .i64 y0.f1, .bool y0.f2, .slice B3 y0.f3.length d3, .slice B4 y0.f4.length d4]] W fun e w' => e = .returned (.bool true) ∧ Below W.heap.size W w') :=
      Lib.hid (fun A3 c3 A4 c4 B3 d3 B4 d4 W q1 q2 q3 q4 q5 q6 q7 q8 => same_any p0 hdp0 hts0 A3 c3 A4 c4 y0 hmir0.symm B3 d3 B4 d4 W q1 q2 q3 q4 q5 q6 q7 q8)
    clear hp0 hy0 hmir0 hdp0 hts0
    clear zdn zrd zsp
    go_enter Tryd.func4, Tryd.ntmps4
    go_wp2_with (first
      | (go_at_call 10
         refine (HSH.out _ rfl).mono ?_
         rintro e W1 ⟨rfl, hB1⟩
         have HB1 := Lib.hid hB1
         clear hB1)
      | (go_at_call 15
         with_reducible refine (HI0.out W1).mono ?_
         rintro e R0 ⟨A0_3, c0_3, A0_4, c0_4, rfl, l3, h3, l4, h4, hB2⟩
         have HBR0 := Lib.hid (HB1.out.trans (hB2.mono HB1.out.size))
         have HF0 := Lib.hid (And.intro l3 (And.intro (Kd.F_now h3) (And.intro l4 (Kd.F_now h4))))
         clear l3 h3 l4 h4 hB2))
    obtain ⟨V0, hV⟩ : ∃ V, V = R0.alloc (.cells #[.int .i64 p0.f0, .int .i64 p0.f1, .bool p0.f2, .slice A0_3 p0.f3.length c0_3, .slice A0_4 p0.f4.length c0_4] 27) := ⟨_, rfl⟩
    rw [← hV]
    have hbV : Below R0.heap.size R0 V0 := by rw [hV]; exact below_alloc (Below.refl _ _) _
    have hX0 : V0.heap[R0.heap.size]? = some (.cells #[.int .i64 p0.f0, .int .i64 p0.f1, .bool p0.f2, .slice A0_3 p0.f3.length c0_3, .slice A0_4 p0.f4.length c0_4] 27 (0, 0)) := by rw [hV]; exact blk_new _ _
    clear hV
    have HBD : Hid (Below R0.heap.size R0 V0.drew) := Lib.hid hbV.drew
    have a0_0 : V0.drew.cell? ⟨R0.heap.size, 0, none⟩ = some (.int .i64 p0.f0) := blk_cell hX0 0
    have a0_1 : V0.drew.cell? ⟨R0.heap.size, 1, none⟩ = some (.int .i64 p0.f1) := blk_cell hX0 1
    have a0_2 : V0.drew.cell? ⟨R0.heap.size, 2, none⟩ = some (.bool p0.f2) := blk_cell hX0 2
    have a0_3 : V0.drew.cell? ⟨R0.heap.size, 3, none⟩ = some (.slice A0_3 p0.f3.length c0_3) := blk_cell hX0 3
    have a0_4 : V0.drew.cell? ⟨R0.heap.size, 4, none⟩ = some (.slice A0_4 p0.f4.length c0_4) := blk_cell hX0 4
    have HY0 : Hid (V0.drew.heap[R0.heap.size]? = some (.cells #[.int .i64 p0.f0, .int .i64 p0.f1, .bool p0.f2, .slice A0_3 p0.f3.length c0_3, .slice A0_4 p0.f4.length c0_4] 27 (0, 0))) := Lib.hid hX0
    have HBV := Lib.hid (HBR0.out.trans (HBD.out.mono HBR0.out.size))
    have HG0 := Lib.hid (And.intro HF0.out.1 (And.intro (Kd.C_below HF0.out.2.1 HBD.out) (And.intro HF0.out.2.2.1 (Kd.C_below HF0.out.2.2.2 HBD.out))))
    clear hbV hX0
    go_region_with (first
      | (go_at_call 16
         with_reducible refine (HSP0.out _).mono ?_
         rintro e S0 h5
         obtain ⟨B0_3, d0_3, B0_4, d0_4, rfl, hl5, hB5⟩ := h5.open
         have HBS0 := Lib.hid (HBV.out.trans (hB5.mono HBV.out.size))
         have hx0 := blk_below HY0.out hB5
         have u0_0_0 : S0.cell? ⟨R0.heap.size, 0, none⟩ = some (.int .i64 p0.f0) := blk_cell hx0 0
         have u0_0_1 : S0.cell? ⟨R0.heap.size, 1, none⟩ = some (.int .i64 p0.f1) := blk_cell hx0 1
         have u0_0_2 : S0.cell? ⟨R0.heap.size, 2, none⟩ = some (.bool p0.f2) := blk_cell hx0 2
         have u0_0_3 : S0.cell? ⟨R0.heap.size, 3, none⟩ = some (.slice A0_3 p0.f3.length c0_3) := blk_cell hx0 3
         have u0_0_4 : S0.cell? ⟨R0.heap.size, 4, none⟩ = some (.slice A0_4 p0.f4.length c0_4) := blk_cell hx0 4
         have HGS0_0 := Lib.hid (And.intro HG0.out.1 (And.intro (Kd.C_below HG0.out.2.1 hB5) (And.intro HG0.out.2.2.1 (Kd.C_below HG0.out.2.2.2 hB5))))
         have HQ0 := Lib.hid (HSA0.out A0_3 c0_3 A0_4 c0_4 B0_3 d0_3 B0_4 d0_4 S0 HGS0_0.out.1 HGS0_0.out.2.1 HGS0_0.out.2.2.1 HGS0_0.out.2.2.2 hl5.1 (Kd.F_now hl5.2.1) hl5.2.2.1 (Kd.F_now hl5.2.2.2))
         clear h5 hl5 hB5 hx0)
      | (go_at_call 13
         first
         | (with_reducible refine HQ0.out.mono ?_
            rintro e Q0 ⟨rfl, hB6⟩
            have HBQ0 := Lib.hid (HBS0.out.trans (hB6.mono HBS0.out.size))
            clear hB6)))
    all_goals (
      go_wp2
      go_ret
      exact ⟨rfl, HBQ0.out⟩)
end Go.Proofs.YtbmcpjkhnhbjdaaDoor.Ber
