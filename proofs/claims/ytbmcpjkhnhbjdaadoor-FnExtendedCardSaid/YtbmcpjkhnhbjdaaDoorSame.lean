/- spec.Alike at packets that are equal: true. · laws.same at an answer that is what is wanted: true. The plain law: the answer's reading is the packet's own tree, where it is neither deep nor great. · laws.short at a list of texts; a row of texts in a block. -/
import Derived.Test.YtbmcpjkhnhbjdaaDoorAnswer
import Derived.BigQuiet
import Derived.Deep.QuietTactic
import Derived.Deep.RegionWith
import Derived.StillTailTactics
import Derived.Deep.DeepCutAuto
import Derived.Deep.CutBlock
import Derived.Test.YtbmcpjkhnhbjdaaDoorLen
import Derived.Test.YtbmcpjkhnhbjdaaDoorPFnEncodex1
namespace Go.Proofs.YtbmcpjkhnhbjdaaDoor.Within
open Go.RowKit Go.Proofs.YtbmcpjkhnhbjdaaDoorW.PrintWords Go.Proofs.YtbmcpjkhnhbjdaaDoor.PFnEncode Go.Proofs.YtbmcpjkhnhbjdaaDoor.Tree Go.Proofs.YtbmcpjkhnhbjdaaDoor.Buf
set_option linter.unusedVariables false
set_option linter.unusedSimpArgs false

mutual
/-- how deep -/
def tdp : S33 → Nat
  | ⟨_, _, _, _, l⟩ => tdpL l + 1
def tdpL : List S33 → Nat
  | [] => 0
  | x :: xs => max (tdp x) (tdpL xs)
end
theorem tdpL_mem : ∀ {l : List S33} {x : S33}, x ∈ l → tdp x ≤ tdpL l
  | y :: ys, x, hx => by
    rw [tdpL]
    rcases List.mem_cons.1 hx with rfl | hx
    · exact Nat.le_max_left _ _
    · exact Nat.le_trans (tdpL_mem hx) (Nat.le_max_right _ _)

set_option maxHeartbeats 3200000 in
set_option maxRecDepth 100000 in
theorem alike_any : ∀ (n : Nat) (x : S33), tdp x ≤ n → ∀ (A3 : Option Addr) (c3 : Nat) (A4 : Option Addr) (c4 : Nat) (B3 : Option Addr) (d3 : Nat) (B4 : Option Addr) (d4 : Nat) (w : World),
    x.f3.length ≤ c3 → (Kd.int .u8).C w A3 x.f3.length x.f3 → x.f4.length ≤ c4 → k33.C w A4 x.f4.length x.f4 → x.f3.length ≤ d3 → (Kd.int .u8).C w B3 x.f3.length x.f3 → x.f4.length ≤ d4 → k33.C w B4 x.f4.length x.f4 →
    Calls Tryd.prog 44 #[.agg #[.int .i64 x.f0, .int .i64 x.f1, .bool x.f2, .slice A3 x.f3.length c3, .slice A4 x.f4.length c4], .agg #[.int .i64 x.f0, .int .i64 x.f1, .bool x.f2, .slice B3 x.f3.length d3, .slice B4 x.f4.length d4]] w fun e w' => e = .returned (.bool true) ∧ Below w.heap.size w w' := by
  intro n
  induction n with
  | zero =>
    rintro ⟨a, b, c, d, l⟩ hd
    rw [tdp] at hd
    omega
  | succ n ih =>
    intro x hd A3 c3 A4 c4 B3 d3 B4 d4 w l3 h3 l4 h4 m3 g3 m4 g4
    have HIH := Lib.hid ih
    clear ih
    obtain ⟨W1, hW1⟩ : ∃ W1, W1 = (w.alloc (.cells #[.int .i64 x.f0, .int .i64 x.f1, .bool x.f2, .slice A3 x.f3.length c3, .slice A4 x.f4.length c4] 33)).alloc (.cells #[.int .i64 x.f0, .int .i64 x.f1, .bool x.f2, .slice B3 x.f3.length d3, .slice B4 x.f4.length d4] 33) := ⟨_, rfl⟩
    have hb1 : Below w.heap.size w W1 := by rw [hW1]; exact below_alloc (below_alloc (Below.refl _ _) _) _
    have hx1 : W1.heap[w.heap.size]? = some (.cells #[.int .i64 x.f0, .int .i64 x.f1, .bool x.f2, .slice A3 x.f3.length c3, .slice A4 x.f4.length c4] 33 (0, 0)) := by rw [hW1]; exact blk_alloc (blk_new _ _) _
    have hy1 : W1.heap[w.heap.size + 1]? = some (.cells #[.int .i64 x.f0, .int .i64 x.f1, .bool x.f2, .slice B3 x.f3.length d3, .slice B4 x.f4.length d4] 33 (0, 0)) := by
      have := blk_new (w.alloc (.cells #[.int .i64 x.f0, .int .i64 x.f1, .bool x.f2, .slice A3 x.f3.length c3, .slice A4 x.f4.length c4] 33)) (.cells #[.int .i64 x.f0, .int .i64 x.f1, .bool x.f2, .slice B3 x.f3.length d3, .slice B4 x.f4.length d4] 33)
      have e : (w.alloc (.cells #[.int .i64 x.f0, .int .i64 x.f1, .bool x.f2, .slice A3 x.f3.length c3, .slice A4 x.f4.length c4] 33)).heap.size = w.heap.size + 1 := by simp
      rw [e, ← hW1] at this
      exact this
    have a0 : W1.cell? ⟨w.heap.size, 0, none⟩ = some (.int .i64 x.f0) := blk_cell hx1 0
    have a1 : W1.cell? ⟨w.heap.size, 1, none⟩ = some (.int .i64 x.f1) := blk_cell hx1 1
    have a2 : W1.cell? ⟨w.heap.size, 2, none⟩ = some (.bool x.f2) := blk_cell hx1 2
    have a3 : W1.cell? ⟨w.heap.size, 3, none⟩ = some (.slice A3 x.f3.length c3) := blk_cell hx1 3
    have af3 : W1.frozen? ⟨w.heap.size, 3, none⟩ = false := blk_frozen hx1 3
    have b0 : W1.cell? ⟨w.heap.size + 1, 0, none⟩ = some (.int .i64 x.f0) := blk_cell hy1 0
    have b1 : W1.cell? ⟨w.heap.size + 1, 1, none⟩ = some (.int .i64 x.f1) := blk_cell hy1 1
    have b2 : W1.cell? ⟨w.heap.size + 1, 2, none⟩ = some (.bool x.f2) := blk_cell hy1 2
    have b3 : W1.cell? ⟨w.heap.size + 1, 3, none⟩ = some (.slice B3 x.f3.length d3) := blk_cell hy1 3
    have hone : x.f3.length = 1 → ∃ ad bd, A3 = some ad ∧ B3 = some bd ∧ W1.cell? ad = some (.int .u8 (rd x.f3 0)) ∧ W1.cell? bd = some (.int .u8 (rd x.f3 0)) := by
      intro h1
      obtain ⟨ad, ha, hc⟩ := Kd.at_int (Kd.C_below h3 hb1) 0 (by omega) (by omega)
      obtain ⟨bd, hb, hd'⟩ := Kd.at_int (Kd.C_below g3 hb1) 0 (by omega) (by omega)
      exact ⟨ad, bd, ha, hb, hc, hd'⟩
    have HX1 := Lib.hid hx1
    have HY1 := Lib.hid hy1
    have HB1 := Lib.hid hb1
    have HONE := Lib.hid hone
    have H := Lib.hid (And.intro h3 (And.intro h4 (And.intro g3 g4)))
    have HW1 := Lib.hid hW1
    clear h3 h4 g3 g4 hx1 hy1 hb1 hone hW1
    go_enter Tryd.func44, Tryd.ntmps44
    go_upto_region 1 with (fail)
    rw [← HW1.out]
    go_cut [5] from 7 to 24 (fun v5 wc => ∃ b : Bool, v5 = .bool b ∧ wc = W1)
    case first =>
      rcases Bool.eq_false_or_eq_true (x.f0 == 0) with e0 | e0 <;> rcases Bool.eq_false_or_eq_true (x.f1 == 1) with e1 | e1 <;> rcases Bool.eq_false_or_eq_true (x.f0 == 2) with e2 | e2 <;> rcases Bool.eq_false_or_eq_true (x.f1 == 4) with e4 | e4 <;> (go_wp2; go_meet; case rel => exact ⟨_, rfl, rfl⟩)
    case rest =>
      obtain ⟨b, rfl, hwc⟩ := hcut
      obtain rfl : W1 = wc := hwc.symm
      clear hwc
      go_upto_region 2 with (fail)
      go_cut [51] from 25 to 50 (fun v51 wc => ∃ b2 : Bool, v51 = .bool b2 ∧ wc = W1)
      case first =>
        cases b with
        | false =>
          go_wp2
          go_meet
          case rel => exact ⟨_, rfl, rfl⟩
        | true =>
          by_cases h1 : x.f3.length = 1
          · obtain ⟨ad, bd, ha, hb, hc, hd'⟩ := HONE.out h1
            have hl : ((x.f3.length : Int) == 1) = true := by rw [h1]; rfl
            subst ha
            subst hb
            obtain ⟨z, hz⟩ : ∃ z, z = rd x.f3 0 := ⟨_, rfl⟩
            rw [← hz] at hc hd'
            have hp : 0 < x.f3.length := by omega
            clear h1 hz
            rcases Bool.eq_false_or_eq_true (z == 255) with e0 | e0 <;> (go_wp2; go_meet; case rel => exact ⟨_, rfl, rfl⟩)
          · have hl : ((x.f3.length : Int) == 1) = false := by simp; omega
            go_wp2
            go_meet
            case rel => exact ⟨_, rfl, rfl⟩
      case rest =>
        obtain ⟨b2, rfl, hwc⟩ := hcut
        obtain rfl : W1 = wc := hwc.symm
        clear hwc HONE
        go_upto_if 51 with (fail)
        go_cut [] (fun wc => ∃ X3 cX, Hid (x.f3.length ≤ cX ∧ (Kd.int .u8).C wc X3 x.f3.length x.f3 ∧ Below w.heap.size w wc ∧ wc.heap[w.heap.size]? = some (.cells #[.int .i64 x.f0, .int .i64 x.f1, .bool x.f2, .slice X3 x.f3.length cX, .slice A4 x.f4.length c4] 33 (0, 0)) ∧ wc.heap[w.heap.size + 1]? = some (.cells #[.int .i64 x.f0, .int .i64 x.f1, .bool x.f2, .slice B3 x.f3.length d3, .slice B4 x.f4.length d4] 33 (0, 0))))
        case first =>
          cases b2 with
          | false =>
            go_wp2
            go_meet
            case rel => exact ⟨A3, c3, Lib.hid ⟨l3, Kd.C_below H.out.1 HB1.out, HB1.out, HX1.out, HY1.out⟩⟩
          | true =>
            have hbs : Below w.heap.size w (W1.setCell ⟨w.heap.size, 3, none⟩ (.slice B3 x.f3.length d3)) := HB1.out.setCell (p := ⟨w.heap.size, 3, none⟩) (Nat.le_refl _) _
            have HBS := Lib.hid hbs
            clear hbs
            go_wp2
            go_meet
            case rel => exact ⟨B3, d3, Lib.hid ⟨m3, Kd.C_below H.out.2.2.1 HBS.out, HBS.out, blk_set HX1.out 3 _, blk_far HY1.out (p := ⟨w.heap.size, 3, none⟩) (by show w.heap.size + 1 ≠ w.heap.size; omega) _⟩⟩
        case rest =>
          obtain ⟨X3, cX, HV⟩ := hcut
          clear a0 a1 a2 a3 af3 b0 b1 b2 b3 HX1 HY1 HB1 HW1
          have a0 : wc.cell? ⟨w.heap.size, 0, none⟩ = some (.int .i64 x.f0) := blk_cell HV.out.2.2.2.1 0
          have a1 : wc.cell? ⟨w.heap.size, 1, none⟩ = some (.int .i64 x.f1) := blk_cell HV.out.2.2.2.1 1
          have a2 : wc.cell? ⟨w.heap.size, 2, none⟩ = some (.bool x.f2) := blk_cell HV.out.2.2.2.1 2
          have a3 : wc.cell? ⟨w.heap.size, 3, none⟩ = some (.slice X3 x.f3.length cX) := blk_cell HV.out.2.2.2.1 3
          have a4 : wc.cell? ⟨w.heap.size, 4, none⟩ = some (.slice A4 x.f4.length c4) := blk_cell HV.out.2.2.2.1 4
          have b0 : wc.cell? ⟨w.heap.size + 1, 0, none⟩ = some (.int .i64 x.f0) := blk_cell HV.out.2.2.2.2 0
          have b1 : wc.cell? ⟨w.heap.size + 1, 1, none⟩ = some (.int .i64 x.f1) := blk_cell HV.out.2.2.2.2 1
          have b2 : wc.cell? ⟨w.heap.size + 1, 2, none⟩ = some (.bool x.f2) := blk_cell HV.out.2.2.2.2 2
          have b3 : wc.cell? ⟨w.heap.size + 1, 3, none⟩ = some (.slice B3 x.f3.length d3) := blk_cell HV.out.2.2.2.2 3
          have b4 : wc.cell? ⟨w.heap.size + 1, 4, none⟩ = some (.slice B4 x.f4.length d4) := blk_cell HV.out.2.2.2.2 4
          have hc1 : (convert 24 9 (.slice X3 x.f3.length cX)).run Tryd.prog wc = .ok (.string (strOfNums x.f3)) wc := Kd.C_string Tryd.underlying24 Tryd.underlying5 Tryd.underlying9 HV.out.2.1
          have hc2 : (convert 24 9 (.slice B3 x.f3.length d3)).run Tryd.prog wc = .ok (.string (strOfNums x.f3)) wc := Kd.C_string Tryd.underlying24 Tryd.underlying5 Tryd.underlying9 (Kd.C_below H.out.2.2.1 HV.out.2.2.1)
          have HD : Hid (tdpL x.f4 ≤ n) := Lib.hid (by
            obtain ⟨xa, xb, xc, xd, xl⟩ := x
            rw [tdp] at hd
            show tdpL xl ≤ n
            omega)
          clear hd
          have HS : Hid (Below w.heap.size w wc ∧ wc.heap[w.heap.size]? = some (.cells #[.int .i64 x.f0, .int .i64 x.f1, .bool x.f2, .slice X3 x.f3.length cX, .slice A4 x.f4.length c4] 33 (0, 0)) ∧ wc.heap[w.heap.size + 1]? = some (.cells #[.int .i64 x.f0, .int .i64 x.f1, .bool x.f2, .slice B3 x.f3.length d3, .slice B4 x.f4.length d4] 33 (0, 0))) := Lib.hid ⟨HV.out.2.2.1, HV.out.2.2.2.1, HV.out.2.2.2.2⟩
          clear HV
          go_wp2
          clear a0 a1 a2 a3 a4 b0 b1 b2 b3 b4 hc1 hc2
          go_loopw [95] (fun i wr => ∃ k : Nat, k ≤ x.f4.length ∧ i = .int .i64 k ∧ Hid (Below w.heap.size w wr ∧ wr.heap[w.heap.size]? = some (.cells #[.int .i64 x.f0, .int .i64 x.f1, .bool x.f2, .slice X3 x.f3.length cX, .slice A4 x.f4.length c4] 33 (0, 0)) ∧ wr.heap[w.heap.size + 1]? = some (.cells #[.int .i64 x.f0, .int .i64 x.f1, .bool x.f2, .slice B3 x.f3.length d3, .slice B4 x.f4.length d4] 33 (0, 0)))) (fun i _ => x.f4.length - (intOf i).toNat)
          case atStart => exact ⟨0, Nat.zero_le _, rfl, HS⟩
          case round =>
            obtain ⟨k, hk, rfl, HR⟩ := hrel
            clear HS
            by_cases hlt : k < x.f4.length
            · have hBw := HR.out.1
              obtain ⟨ad, P3, p3, P4, p4, rfl, e0, e1, e2, e3, e4, u3, n3, u4, n4⟩ := at_T33 H.out.2.1 (k : Int) (by omega) (by omega)
              obtain ⟨bd, Q3, q3, Q4, q4, rfl, f0, f1, f2, f3, f4, y3, z3, y4, z4⟩ := at_T33 H.out.2.2.2 (k : Int) (by omega) (by omega)
              rw [Int.toNat_natCast] at e0 e1 e2 e3 e4 f0 f1 f2 f3 f4
              have hmem : rd_T33 x.f4 (k : Int) ∈ x.f4 := by
                rw [rd_T33, Int.toNat_natCast, List.getD_eq_getElem?_getD, List.getElem?_eq_getElem hlt]
                exact List.getElem_mem hlt
              have hdk := Nat.le_trans (tdpL_mem hmem) HD.out
              obtain ⟨kid, hkid⟩ : ∃ kid, kid = rd_T33 x.f4 (k : Int) := ⟨_, rfl⟩
              rw [← hkid] at e0 e1 e2 e3 e4 u3 n3 u4 n4 f0 f1 f2 f3 f4 y3 z3 y4 z4 hdk
              clear hkid hmem
              replace e0 := (hBw.cell (World.block_lt_of_cell? w _ e0)).trans e0
              replace e1 := (hBw.cell (World.block_lt_of_cell? w _ e1)).trans e1
              replace e2 := (hBw.cell (World.block_lt_of_cell? w _ e2)).trans e2
              replace e3 := (hBw.cell (World.block_lt_of_cell? w _ e3)).trans e3
              replace e4 := (hBw.cell (World.block_lt_of_cell? w _ e4)).trans e4
              replace f0 := (hBw.cell (World.block_lt_of_cell? w _ f0)).trans f0
              replace f1 := (hBw.cell (World.block_lt_of_cell? w _ f1)).trans f1
              replace f2 := (hBw.cell (World.block_lt_of_cell? w _ f2)).trans f2
              replace f3 := (hBw.cell (World.block_lt_of_cell? w _ f3)).trans f3
              replace f4 := (hBw.cell (World.block_lt_of_cell? w _ f4)).trans f4
              have HC : Hid (∀ W, Below w.heap.size w W → Calls Tryd.prog 44 #[.agg #[.int .i64 kid.f0, .int .i64 kid.f1, .bool kid.f2, .slice P3 kid.f3.length p3, .slice P4 kid.f4.length p4], .agg #[.int .i64 kid.f0, .int .i64 kid.f1, .bool kid.f2, .slice Q3 kid.f3.length q3, .slice Q4 kid.f4.length q4]] W fun e w' => e = .returned (.bool true) ∧ Below W.heap.size W w') :=
                Lib.hid (fun W hW => HIH.out kid hdk P3 p3 P4 p4 Q3 q3 Q4 q4 W u3 (Kd.C_below n3 hW) u4 (Kd.C_below n4 hW) y3 (Kd.C_below z3 hW) y4 (Kd.C_below z4 hW))
              have s4 : wr.cell? ⟨w.heap.size, 4, none⟩ = some (.slice (some ad) x.f4.length c4) := blk_cell HR.out.2.1 4
              have t4 : wr.cell? ⟨w.heap.size + 1, 4, none⟩ = some (.slice (some bd) x.f4.length d4) := blk_cell HR.out.2.2 4
              have hmax := Kd.C_max H.out.2.1
              have hwk : wrap64 ((k : Int) + 1) = (k : Int) + 1 := by unfold wrap64; omega
              clear hmax
              clear hBw u3 n3 u4 n4 y3 z3 y4 z4 hdk
              go_wp2
              go_still_tail 10, (by kernel_rfl)
              change wpList _ _ _ _ _ wr.drew
              obtain ⟨w2, hw2⟩ : ∃ w2, w2 = wr.drew := ⟨_, rfl⟩
              rw [← hw2]
              have hB2 : Below wr.heap.size wr w2 := by rw [hw2]; exact (Below.refl _ _).drew
              have HB2 := Lib.hid hB2
              clear hw2 hB2
              go_wp2_with (go_at_call 44; with_reducible refine (HC.out w2 (HR.out.1.trans (HB2.out.mono HR.out.1.size))).mono ?_; rintro e w3 ⟨rfl, hb3⟩)
              have hb4 := HB2.out.trans (hb3.mono HB2.out.size)
              go_roundw
              case rel =>
                rw [hwk]
                clear hwk
                exact ⟨k + 1, by omega, rfl, Lib.hid ⟨HR.out.1.trans (hb4.mono HR.out.1.size), blk_below HR.out.2.1 hb4, blk_below HR.out.2.2 hb4⟩⟩
              case measure =>
                rw [hwk]
                clear hwk
                show x.f4.length - ((k : Int) + 1).toNat < x.f4.length - ((k : Int)).toNat
                rw [show ((k : Int) + 1).toNat = k + 1 from rfl, Int.toNat_natCast]
                omega
            · obtain rfl : k = x.f4.length := by omega
              go_wp2
              go_ret
              exact ⟨rfl, HR.out.1⟩
end Go.Proofs.YtbmcpjkhnhbjdaaDoor.Within

namespace Go.Proofs.YtbmcpjkhnhbjdaaDoor.Within
open Go.RowKit Go.Proofs.YtbmcpjkhnhbjdaaDoorW.PrintWords Go.Proofs.YtbmcpjkhnhbjdaaDoor.PFnEncode Go.Proofs.YtbmcpjkhnhbjdaaDoor.Tree Go.Proofs.YtbmcpjkhnhbjdaaDoor.Buf Go.Proofs.YtbmcpjkhnhbjdaaDoor.Num
set_option linter.unusedVariables false
set_option linter.unusedSimpArgs false

/-- a packet within the depth and the room is read as it is -/
theorem wi_all : ∀ (d : Nat) (p : S27) (r : Int), tdp (mir p) ≤ d → (tsize (mir p) : Int) ≤ r → wi d p r = (mir p, r - tsize (mir p)) := by
  intro d
  induction d with
  | zero =>
    rintro ⟨a, b, c, dd, l⟩ r hd
    rw [mir, tdp] at hd
    omega
  | succ d ih =>
    have hL : ∀ (p : S27) (ks done : List S27) (r : Int), p.f4 = done ++ ks → tdpL (mirL ks) ≤ d → (tsizeL (mirL ks) : Int) ≤ r → wiL d p ks (mirL done) r = (⟨p.f0, p.f1, p.f2, p.f3, mirL p.f4⟩, r - tsizeL (mirL ks)) := by
      intro p ks
      induction ks with
      | nil =>
        intro done r hp _ _
        rw [wiL, hp]
        simp [mirL, tsizeL]
      | cons k ks ihk =>
        intro done r hp hd hr
        rw [mirL, tdpL] at hd
        rw [mirL, tsizeL] at hr
        push_cast at hr
        have h1 := ih k r (by omega) (by omega)
        rw [wiL, if_neg (by omega), h1]
        have e : mirL done ++ [mir k] = mirL (done ++ [k]) := by rw [mirL_append]; rfl
        rw [e, ihk (done ++ [k]) (r - tsize (mir k)) (by rw [hp]; simp) (by omega) (by omega), mirL, tsizeL]
        push_cast
        congr 1
        omega
    rintro ⟨a, b, c, dd, l⟩ r hd hr
    rw [mir, tdp] at hd
    rw [mir, tsize] at hr
    push_cast at hr
    have := hL ⟨a, b, c, dd, l⟩ l [] (r - (1 + (dd.length : Int))) rfl (by omega) (by omega)
    rw [wi, if_neg (by show ¬ r - (1 + (dd.length : Int)) < 0; omega)]
    show wiL d ⟨a, b, c, dd, l⟩ l (mirL []) (r - (1 + (dd.length : Int))) = _
    rw [this, mir, tsize]
    push_cast
    congr 1
    omega

mutual
theorem lens_of : ∀ (p : S27), tsize (mir p) ≤ 1000000 → lens p = true
  | ⟨a, b, c, d, l⟩, h => by
    rw [mir, tsize] at h
    have hl := lensL_of l (by omega)
    have hn := len_le l
    rw [lens, hl]
    simp only [Bool.and_true, Bool.and_eq_true, decide_eq_true_eq]
    have : reachBytes = 140737488351232 := by decide
    omega
theorem lensL_of : ∀ (l : List S27), tsizeL (mirL l) ≤ 1000000 → lensL l = true
  | [], _ => rfl
  | x :: xs, h => by
    rw [mirL, tsizeL] at h
    rw [lensL, lens_of x (by omega), lensL_of xs (by omega)]
    rfl
theorem len_le : ∀ (l : List S27), l.length ≤ tsizeL (mirL l)
  | [] => Nat.zero_le _
  | ⟨a, b, c, d, l'⟩ :: xs => by
    rw [mirL, tsizeL, mir, tsize, List.length_cons]
    have := len_le xs
    omega
end

set_option maxHeartbeats 1600000 in
set_option maxRecDepth 100000 in
theorem same_any (p : S27) (hd : tdp (mir p) ≤ 60) (hs : tsize (mir p) ≤ 200000) (A3 : Option Addr) (c3 : Nat) (A4 : Option Addr) (c4 : Nat) (y : S33) (hy : y = mir p) (B3 : Option Addr) (d3 : Nat) (B4 : Option Addr) (d4 : Nat) (w : World)
    (l3 : p.f3.length ≤ c3) (h3 : (Kd.int .u8).C w A3 p.f3.length p.f3) (l4 : p.f4.length ≤ c4) (h4 : k27.C w A4 p.f4.length p.f4) (m3 : y.f3.length ≤ d3) (g3 : (Kd.int .u8).C w B3 y.f3.length y.f3) (m4 : y.f4.length ≤ d4) (g4 : k33.C w B4 y.f4.length y.f4) :
    Calls Tryd.prog 13 #[.agg #[.int .i64 p.f0, .int .i64 p.f1, .bool p.f2, .slice A3 p.f3.length c3, .slice A4 p.f4.length c4], .bool true, .agg #[.int .i64 y.f0, .int .i64 y.f1, .bool y.f2, .slice B3 y.f3.length d3, .slice B4 y.f4.length d4]] w fun e w' => e = .returned (.bool true) ∧ Below w.heap.size w w' := by
  have hwi : (wi 60 p 200000).1 = y := by rw [wi_all 60 p 200000 hd (by omega), hy]
  have HA : Hid (∀ W, Below w.heap.size w W → Calls Tryd.prog 45 #[.agg #[.int .i64 p.f0, .int .i64 p.f1, .bool p.f2, .slice A3 p.f3.length c3, .slice A4 p.f4.length c4]] W (Got W y)) := Lib.hid (fun W hW => by
    have := answer_any p A3 c3 A4 c4 W (Kd.C_below h3 hW) l3 (Kd.C_below h4 hW) l4 (lens_of p (by omega))
    rw [hwi] at this
    exact this)
  have HL : Hid (∀ (E3 : Option Addr) (e3 : Nat) (E4 : Option Addr) (e4 : Nat) (W : World), Below w.heap.size w W → y.f3.length ≤ e3 → (Kd.int .u8).C W E3 y.f3.length y.f3 → y.f4.length ≤ e4 → k33.C W E4 y.f4.length y.f4 → Calls Tryd.prog 44 #[.agg #[.int .i64 y.f0, .int .i64 y.f1, .bool y.f2, .slice E3 y.f3.length e3, .slice E4 y.f4.length e4], .agg #[.int .i64 y.f0, .int .i64 y.f1, .bool y.f2, .slice B3 y.f3.length d3, .slice B4 y.f4.length d4]] W fun e w' => e = .returned (.bool true) ∧ Below W.heap.size W w') :=
    Lib.hid (fun E3 e3 E4 e4 W hW q3 r3 q4 r4 => alike_any (tdp y) y (Nat.le_refl _) E3 e3 E4 e4 B3 d3 B4 d4 W q3 r3 q4 r4 m3 (Kd.C_below g3 hW) m4 (Kd.C_below g4 hW))
  obtain ⟨W0, hW0⟩ : ∃ W0, W0 = (w.alloc (.cells #[.int .i64 p.f0, .int .i64 p.f1, .bool p.f2, .slice A3 p.f3.length c3, .slice A4 p.f4.length c4] 27)).alloc (.cells #[.int .i64 y.f0, .int .i64 y.f1, .bool y.f2, .slice B3 y.f3.length d3, .slice B4 y.f4.length d4] 33) := ⟨_, rfl⟩
  have hb0 : Below w.heap.size w W0 := by rw [hW0]; exact below_alloc (below_alloc (Below.refl _ _) _) _
  have hx0 : W0.heap[w.heap.size]? = some (.cells #[.int .i64 p.f0, .int .i64 p.f1, .bool p.f2, .slice A3 p.f3.length c3, .slice A4 p.f4.length c4] 27 (0, 0)) := by rw [hW0]; exact blk_alloc (blk_new _ _) _
  have hy0 : W0.heap[w.heap.size + 1]? = some (.cells #[.int .i64 y.f0, .int .i64 y.f1, .bool y.f2, .slice B3 y.f3.length d3, .slice B4 y.f4.length d4] 33 (0, 0)) := by
    have := blk_new (w.alloc (.cells #[.int .i64 p.f0, .int .i64 p.f1, .bool p.f2, .slice A3 p.f3.length c3, .slice A4 p.f4.length c4] 27)) (.cells #[.int .i64 y.f0, .int .i64 y.f1, .bool y.f2, .slice B3 y.f3.length d3, .slice B4 y.f4.length d4] 33)
    have e : (w.alloc (.cells #[.int .i64 p.f0, .int .i64 p.f1, .bool p.f2, .slice A3 p.f3.length c3, .slice A4 p.f4.length c4] 27)).heap.size = w.heap.size + 1 := by simp
    rw [e, ← hW0] at this
    exact this
  have hd0 : Below w.heap.size w W0.drew := hb0.drew
  have hx0' : W0.drew.heap[w.heap.size]? = some (.cells #[.int .i64 p.f0, .int .i64 p.f1, .bool p.f2, .slice A3 p.f3.length c3, .slice A4 p.f4.length c4] 27 (0, 0)) := hx0
  have hy0' : W0.drew.heap[w.heap.size + 1]? = some (.cells #[.int .i64 y.f0, .int .i64 y.f1, .bool y.f2, .slice B3 y.f3.length d3, .slice B4 y.f4.length d4] 33 (0, 0)) := hy0
  have a0 : W0.cell? ⟨w.heap.size, 0, none⟩ = some (.int .i64 p.f0) := blk_cell hx0 0
  have a1 : W0.cell? ⟨w.heap.size, 1, none⟩ = some (.int .i64 p.f1) := blk_cell hx0 1
  have a2 : W0.cell? ⟨w.heap.size, 2, none⟩ = some (.bool p.f2) := blk_cell hx0 2
  have a3 : W0.cell? ⟨w.heap.size, 3, none⟩ = some (.slice A3 p.f3.length c3) := blk_cell hx0 3
  have a4 : W0.cell? ⟨w.heap.size, 4, none⟩ = some (.slice A4 p.f4.length c4) := blk_cell hx0 4
  have b0 : W0.cell? ⟨w.heap.size + 1, 0, none⟩ = some (.int .i64 y.f0) := blk_cell hy0 0
  have b1 : W0.cell? ⟨w.heap.size + 1, 1, none⟩ = some (.int .i64 y.f1) := blk_cell hy0 1
  have b2 : W0.cell? ⟨w.heap.size + 1, 2, none⟩ = some (.bool y.f2) := blk_cell hy0 2
  have b3 : W0.cell? ⟨w.heap.size + 1, 3, none⟩ = some (.slice B3 y.f3.length d3) := blk_cell hy0 3
  have b4 : W0.cell? ⟨w.heap.size + 1, 4, none⟩ = some (.slice B4 y.f4.length d4) := blk_cell hy0 4
  have HY0 := Lib.hid hy0
  have HB0 := Lib.hid hd0
  have HW0 := Lib.hid hW0
  clear hy hwi h3 h4 g3 g4 l3 l4 m3 m4 hb0 hx0 hy0 hW0 hd hs hd0 hx0' hy0'
  go_enter Tryd.func13, Tryd.ntmps13
  go_wp2_with fail
  rw [← HW0.out]
  clear HW0
  go_region_with (first
    | (go_at_call 45
       with_reducible refine (HA.out _ HB0.out).mono ?_
       rintro e W1 ⟨E3, e3, E4, e4, rfl, q3, r3, q4, r4, hB1⟩
       have hB1' : Below W0.heap.size W0 W1 := ⟨hB1.os, hB1.tape, hB1.output, hB1.size, hB1.block⟩
       have hy1 := blk_below HY0.out hB1'
       have u0 : W1.cell? ⟨w.heap.size + 1, 0, none⟩ = some (.int .i64 y.f0) := blk_cell hy1 0
       have u1 : W1.cell? ⟨w.heap.size + 1, 1, none⟩ = some (.int .i64 y.f1) := blk_cell hy1 1
       have u2 : W1.cell? ⟨w.heap.size + 1, 2, none⟩ = some (.bool y.f2) := blk_cell hy1 2
       have u3 : W1.cell? ⟨w.heap.size + 1, 3, none⟩ = some (.slice B3 y.f3.length d3) := blk_cell hy1 3
       have u4 : W1.cell? ⟨w.heap.size + 1, 4, none⟩ = some (.slice B4 y.f4.length d4) := blk_cell hy1 4
       have hb1 : Below w.heap.size w W1 := HB0.out.trans (hB1.mono HB0.out.size)
       have HC1 := Lib.hid (HL.out E3 e3 E4 e4 W1 hb1 q3 r3 q4 r4)
       have HB1 := Lib.hid hb1
       clear q3 r3 q4 r4 hB1 hB1' hy1 hb1)
    | (go_at_call 44
       with_reducible refine HC1.out.mono ?_
       rintro e W2 ⟨rfl, hB2⟩
       have HB2 := Lib.hid (HB1.out.trans (hB2.mono HB1.out.size))
       clear hB2)
    | (go_at_call 11
       refine (works_any _).mono ?_
       rintro e W3 ⟨rfl, hB3⟩
       have HB3 := Lib.hid (HB2.out.trans (hB3.mono HB2.out.size))
       clear hB3))
  all_goals (
    go_wp2
    go_ret
    exact ⟨rfl, HB3.out⟩)
end Go.Proofs.YtbmcpjkhnhbjdaaDoor.Within

namespace Go.Proofs.YtbmcpjkhnhbjdaaDoor.Within
open Go.RowKit Go.Proofs.YtbmcpjkhnhbjdaaDoorW.PrintWords Go.Proofs.YtbmcpjkhnhbjdaaDoor.PFnEncode Go.Proofs.YtbmcpjkhnhbjdaaDoor.Tree Go.Proofs.YtbmcpjkhnhbjdaaDoor.Buf Go.Proofs.YtbmcpjkhnhbjdaaDoor.Num
set_option linter.unusedVariables false
set_option linter.unusedSimpArgs false

/-- texts of at most 200 bytes, at most 20 of them -/
def shortT (l : List ByteArray) : Bool := l.all (fun s => decide (s.size ≤ 200)) && decide (l.length ≤ 20)

theorem short_l0 (x0 : List ByteArray) : ∀ (l pre : List ByteArray), pre.length + l.length < 4611686018427387904 → laws_short.l0 (l.length + 1) x0 (pre ++ l) ((pre ++ l).length : Int) (pre.length : Int) = some (l.all (fun s => decide (s.size ≤ 200)) && decide (x0.length ≤ 20)) := by
  intro l
  induction l with
  | nil =>
    intro pre _
    unfold laws_short.l0
    rw [if_neg (by simp)]
    simp
    omega
  | cons s l ih =>
    intro pre hl
    rw [List.length_cons] at hl
    unfold laws_short.l0
    rw [if_pos (by simp; omega), if_pos (by omega), if_pos (by simp; omega)]
    have e : rdOf ByteArray.empty (pre ++ s :: l) (pre.length : Int) = s := by
      unfold rdOf
      simp
    rw [e]
    by_cases hs : (s.size : Int) > 200
    · rw [if_pos hs]
      simp
      omega
    · rw [if_neg hs]
      have e2 : wrap64 ((pre.length : Int) + 1) = ((pre ++ [s]).length : Int) := by
        unfold wrap64
        simp
        omega
      have e3 : pre ++ s :: l = (pre ++ [s]) ++ l := by simp
      rw [e2, e3, List.length_cons, ih (pre ++ [s]) (by simp; omega)]
      have : decide (s.size ≤ 200) = true := by simp; omega
      simp [this]

theorem short_any (l : List ByteArray) (A : Option Addr) (c : Nat) (w : World) (h : Kd.C Kd.string w A l.length l) (hl : l.length ≤ c) (hn : l.length < 1000000) :
    Calls Tryd.prog 10 #[.slice A l.length c] w fun e w' => e = .returned (.bool (shortT l)) ∧ Below w.heap.size w w' := by
  have hs : laws_short.f (l.length + 1) l = some (shortT l) := by
    unfold laws_short.f shortT
    have := short_l0 l l [] (by simp; omega)
    simpa using this
  refine (laws_short.calls _ A c l _ w h hl hs).mono ?_
  rintro e w' ⟨rfl, ⟨nd, rfl⟩⟩
  exact ⟨rfl, pw_below_drewN (Below.refl _ _) _⟩

/-- texts beside each other in a block -/
theorem strs_block {W : World} {n : Nat} {l : List ByteArray} {arr : Array Value} (hb : W.heap[n]? = some (.cells arr 9 (0, 0))) (ha : arr.toList = l.map Value.string) (hm : l.length ≤ 9223372036854775807) : Kd.C Kd.string W (some ⟨n, 0, none⟩) l.length l := by
  refine ⟨rfl, hm, fun _ => ⟨⟨n, 0, none⟩, rfl, fun j p hj => ⟨[.string p], rfl, rfl, fun i u hu => ?_⟩⟩⟩
  have hi : i = 0 := by
    have := (List.getElem?_eq_some_iff.1 hu).1
    simpa using this
  subst hi
  have hu' : Value.string p = u := by simpa using hu
  subst hu'
  have h1 := blk_cell hb j
  rw [← Array.getElem?_toList, ha, List.getElem?_map, hj] at h1
  have e : (Addr.add ⟨n, 0, none⟩ (j * Kd.string.sz + 0)) = ⟨n, j, none⟩ := by
    show Addr.add ⟨n, 0, none⟩ (j * 1 + 0) = _
    unfold Addr.add
    simp
    intros
    omega
  rw [e, h1]
  rfl
end Go.Proofs.YtbmcpjkhnhbjdaaDoor.Within
