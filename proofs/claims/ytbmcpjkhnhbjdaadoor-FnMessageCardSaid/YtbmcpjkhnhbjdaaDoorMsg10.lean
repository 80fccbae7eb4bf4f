/- Parts of the proof of one law, in the order in which they build. The reference's Alike at packets that are equal but for true truth values. · impl.operation once more, where the method takes its receiver by value: what it is handed is read from memory. · An operation with controls, appended to an envelope. · impl.Message: an operation with its number and its controls. · A proper packet of data, built: within Go's sizes, and read back as itself. · impl.Message: the closure that builds it. · Plain maths: the controls of the package and those of the reference are alike. -/
import Derived.Deep.RegionLaw
import Derived.Test.YtbmcpjkhnhbjdaaDoorMsg1
import Derived.Test.YtbmcpjkhnhbjdaaDoorMsg2
import Derived.Test.YtbmcpjkhnhbjdaaDoorMsg3
import Derived.Test.YtbmcpjkhnhbjdaaDoorMsg4
import Derived.Test.YtbmcpjkhnhbjdaaDoorMsg5
import Derived.Test.YtbmcpjkhnhbjdaaDoorMsg6
import Derived.Test.YtbmcpjkhnhbjdaaDoorMsg7
import Derived.Test.YtbmcpjkhnhbjdaaDoorMsg8
import Derived.Test.YtbmcpjkhnhbjdaaDoorMsg9
namespace Go.Proofs.YtbmcpjkhnhbjdaaDoor.Within
open Go.RowKit Go.Proofs.YtbmcpjkhnhbjdaaDoorW.PrintWords Go.Proofs.YtbmcpjkhnhbjdaaDoor.PFnEncode Go.Proofs.YtbmcpjkhnhbjdaaDoor.Tree Go.Proofs.YtbmcpjkhnhbjdaaDoor.Buf
set_option linter.unusedVariables false
set_option linter.unusedSimpArgs false

mutual
/-- got and want are equal, but a true truth value may be 1 for 255 -/
def alk : S33 → S33 → Prop
  | ⟨a, b, c, d, l⟩, ⟨a', b', c', d', l'⟩ => a = a' ∧ b = b' ∧ c = c' ∧ (d = d' ∨ (a = 0 ∧ b = 1 ∧ d' = [255] ∧ d = [1])) ∧ alkL l l'
def alkL : List S33 → List S33 → Prop
  | [], [] => True
  | x :: xs, y :: ys => alk x y ∧ alkL xs ys
  | _, _ => False
end
theorem alk_parts {x y : S33} (h : alk x y) : x.f0 = y.f0 ∧ x.f1 = y.f1 ∧ x.f2 = y.f2 ∧ (x.f3 = y.f3 ∨ (x.f0 = 0 ∧ x.f1 = 1 ∧ y.f3 = [255] ∧ x.f3 = [1])) ∧ alkL x.f4 y.f4 := by
  obtain ⟨a, b, c, d, l⟩ := x
  obtain ⟨a', b', c', d', l'⟩ := y
  rw [alk] at h
  exact h
theorem alkL_len : ∀ {l m : List S33}, alkL l m → l.length = m.length
  | [], [], _ => rfl
  | x :: xs, y :: ys, h => by rw [alkL] at h; rw [List.length_cons, List.length_cons, alkL_len h.2]
  | [], y :: ys, h => by rw [alkL] at h; exact h.elim; all_goals simp
  | x :: xs, [], h => by rw [alkL] at h; exact h.elim; all_goals simp
theorem alkL_at : ∀ {l m : List S33}, alkL l m → ∀ {k : Nat}, k < l.length → alk (rd_T33 l (k : Int)) (rd_T33 m (k : Int))
  | [], _, _, k, hk => absurd hk (Nat.not_lt_zero _)
  | x :: xs, [], h, k, hk => by have := alkL_len h; simp at this
  | x :: xs, y :: ys, h, k, hk => by
    rw [alkL] at h
    cases k with
    | zero => exact h.1
    | succ k =>
      have := alkL_at h.2 (k := k) (by simpa using hk)
      rw [rd_T33, rd_T33, Int.toNat_natCast] at this ⊢
      exact this
mutual
theorem alk_refl : ∀ x : S33, alk x x
  | ⟨a, b, c, d, l⟩ => by rw [alk]; exact ⟨rfl, rfl, rfl, .inl rfl, alkL_refl l⟩
theorem alkL_refl : ∀ l : List S33, alkL l l
  | [] => by rw [alkL]; trivial
  | x :: xs => by rw [alkL]; exact ⟨alk_refl x, alkL_refl xs⟩
end

set_option maxHeartbeats 3200000 in
set_option maxRecDepth 100000 in
theorem alike2_any : ∀ (n : Nat) (a b : Int) (cb : Bool) (dx dy : List Int) (lx ly : List S33), tdpL ly < n → (dx = dy ∨ (a = 0 ∧ b = 1 ∧ dy = [255] ∧ dx = [1])) → alkL lx ly → ∀ (A3 : Option Addr) (c3 : Nat) (A4 : Option Addr) (c4 : Nat) (B3 : Option Addr) (d3 : Nat) (B4 : Option Addr) (d4 : Nat) (w : World),
    dx.length ≤ c3 → (Kd.int .u8).C w A3 dx.length dx → lx.length ≤ c4 → k33.C w A4 lx.length lx → dy.length ≤ d3 → (Kd.int .u8).C w B3 dy.length dy → lx.length ≤ d4 → k33.C w B4 lx.length ly →
    Calls Tryd.prog 44 #[.agg #[.int .i64 a, .int .i64 b, .bool cb, .slice A3 dx.length c3, .slice A4 lx.length c4], .agg #[.int .i64 a, .int .i64 b, .bool cb, .slice B3 dy.length d3, .slice B4 lx.length d4]] w fun e w' => e = .returned (.bool true) ∧ Below w.heap.size w w' := by
  intro n
  induction n with
  | zero =>
    intro a b cb dx dy lx ly hd
    omega
  | succ n ih =>
    intro a b cb dx dy lx ly hd hdd hll A3 c3 A4 c4 B3 d3 B4 d4 w l3 h3 l4 h4 m3 g3 m4 g4
    have HIH := Lib.hid ih
    have HDD := Lib.hid hdd
    have HLL := Lib.hid hll
    clear ih hdd hll
    obtain ⟨W1, hW1⟩ : ∃ W1, W1 = (w.alloc (.cells #[.int .i64 a, .int .i64 b, .bool cb, .slice A3 dx.length c3, .slice A4 lx.length c4] 33)).alloc (.cells #[.int .i64 a, .int .i64 b, .bool cb, .slice B3 dy.length d3, .slice B4 lx.length d4] 33) := ⟨_, rfl⟩
    have hb1 : Below w.heap.size w W1 := by rw [hW1]; exact below_alloc (below_alloc (Below.refl _ _) _) _
    have hx1 : W1.heap[w.heap.size]? = some (.cells #[.int .i64 a, .int .i64 b, .bool cb, .slice A3 dx.length c3, .slice A4 lx.length c4] 33 (0, 0)) := by rw [hW1]; exact blk_alloc (blk_new _ _) _
    have hy1 : W1.heap[w.heap.size + 1]? = some (.cells #[.int .i64 a, .int .i64 b, .bool cb, .slice B3 dy.length d3, .slice B4 lx.length d4] 33 (0, 0)) := by
      have := blk_new (w.alloc (.cells #[.int .i64 a, .int .i64 b, .bool cb, .slice A3 dx.length c3, .slice A4 lx.length c4] 33)) (.cells #[.int .i64 a, .int .i64 b, .bool cb, .slice B3 dy.length d3, .slice B4 lx.length d4] 33)
      have e : (w.alloc (.cells #[.int .i64 a, .int .i64 b, .bool cb, .slice A3 dx.length c3, .slice A4 lx.length c4] 33)).heap.size = w.heap.size + 1 := by simp
      rw [e, ← hW1] at this
      exact this
    have a0 : W1.cell? ⟨w.heap.size, 0, none⟩ = some (.int .i64 a) := blk_cell hx1 0
    have a1 : W1.cell? ⟨w.heap.size, 1, none⟩ = some (.int .i64 b) := blk_cell hx1 1
    have a2 : W1.cell? ⟨w.heap.size, 2, none⟩ = some (.bool cb) := blk_cell hx1 2
    have a3 : W1.cell? ⟨w.heap.size, 3, none⟩ = some (.slice A3 dx.length c3) := blk_cell hx1 3
    have af3 : W1.frozen? ⟨w.heap.size, 3, none⟩ = false := blk_frozen hx1 3
    have b0 : W1.cell? ⟨w.heap.size + 1, 0, none⟩ = some (.int .i64 a) := blk_cell hy1 0
    have b1 : W1.cell? ⟨w.heap.size + 1, 1, none⟩ = some (.int .i64 b) := blk_cell hy1 1
    have b2 : W1.cell? ⟨w.heap.size + 1, 2, none⟩ = some (.bool cb) := blk_cell hy1 2
    have b3 : W1.cell? ⟨w.heap.size + 1, 3, none⟩ = some (.slice B3 dy.length d3) := blk_cell hy1 3
    have hone : dx.length = 1 → dy.length = 1 → ∃ ad bd, A3 = some ad ∧ B3 = some bd ∧ W1.cell? ad = some (.int .u8 (rd dx 0)) ∧ W1.cell? bd = some (.int .u8 (rd dy 0)) := by
      intro h1 h2
      obtain ⟨ad, ha, hc⟩ := Kd.at_int (Kd.C_below h3 hb1) 0 (by omega) (by omega)
      obtain ⟨bd, hb, hd'⟩ := Kd.at_int (Kd.C_below g3 hb1) 0 (by omega) (by omega)
      exact ⟨ad, bd, ha, hb, hc, hd'⟩
    have HX1 := Lib.hid hx1
    have HY1 := Lib.hid hy1
    have HB1 := Lib.hid hb1
    have HONE := Lib.hid hone
    have H := Lib.hid (And.intro h3 (And.intro h4 (And.intro g3 g4)))
    have HW1 := Lib.hid hW1
    clear h3 h4 g3 g4 hx1 hy1 hb1 hone hW1
    go_enter Tryd.func44, Tryd.ntmps44
    go_upto_region 1 with (fail)
    rw [← HW1.out]
    go_cut [5] from 7 to 24 (fun v5 wc => ∃ bb : Bool, v5 = .bool bb ∧ wc = W1 ∧ (bb = false → dx = dy))
    case first =>
      rcases Bool.eq_false_or_eq_true (a == 0) with e0 | e0 <;> rcases Bool.eq_false_or_eq_true (b == 1) with e1 | e1 <;> rcases Bool.eq_false_or_eq_true (a == 2) with e2 | e2 <;> rcases Bool.eq_false_or_eq_true (b == 4) with e4 | e4 <;> (go_wp2; go_meet; case rel => exact ⟨_, rfl, rfl, fun h => by first | (cases h; done) | (exact HDD.out.resolve_right (fun h => by obtain ⟨h5, h6, _⟩ := h; subst h5; subst h6; first | (cases e0; done) | (cases e1; done)))⟩)
    case rest =>
      obtain ⟨bb, rfl, hwc, hbf⟩ := hcut
      obtain rfl : W1 = wc := hwc.symm
      clear hwc
      go_upto_region 2 with (fail)
      go_cut [51] from 25 to 50 (fun v51 wc => ∃ b2 : Bool, v51 = .bool b2 ∧ wc = W1 ∧ (b2 = false → dx = dy))
      case first =>
        cases bb with
        | false =>
          have HBF := Lib.hid (hbf rfl)
          clear hbf
          go_wp2
          go_meet
          case rel => exact ⟨_, rfl, rfl, fun _ => HBF.out⟩
        | true =>
          clear hbf
          rcases HDD.out with hdd | hdd
          rotate_left
          · obtain ⟨h5, h6, h7, h8⟩ := hdd
            obtain ⟨ad, bd, ha, hb, hc, hd'⟩ := HONE.out (by rw [h8]; rfl) (by rw [h7]; rfl)
            subst ha
            subst hb
            replace hc : W1.cell? ad = some (.int .u8 1) := by rw [hc, h8]; rfl
            replace hd' : W1.cell? bd = some (.int .u8 255) := by rw [hd', h7]; rfl
            have hl1 : ((dx.length : Int) == 1) = true := by rw [h8]; rfl
            have hl2 : ((dy.length : Int) == 1) = true := by rw [h7]; rfl
            have hp1 : 0 < dx.length := by rw [h8]; decide
            have hp2 : 0 < dy.length := by rw [h7]; decide
            clear h5 h6 h7 h8
            go_wp2
            go_meet
            case rel => exact ⟨_, rfl, rfl, fun h => by cases h⟩
          subst hdd
          by_cases h1 : dx.length = 1
          · obtain ⟨ad, bd, ha, hb, hc, hd'⟩ := HONE.out h1 h1
            have hl : ((dx.length : Int) == 1) = true := by rw [h1]; rfl
            subst ha
            subst hb
            obtain ⟨z, hz⟩ : ∃ z, z = rd dx 0 := ⟨_, rfl⟩
            rw [← hz] at hc hd'
            have hp : 0 < dx.length := by omega
            clear h1 hz
            rcases Bool.eq_false_or_eq_true (z == 255) with e0 | e0 <;> (go_wp2; go_meet; case rel => exact ⟨_, rfl, rfl, by simp⟩)
          · have hl : ((dx.length : Int) == 1) = false := by simp; omega
            go_wp2
            go_meet
            case rel => exact ⟨_, rfl, rfl, by simp⟩
      case rest =>
        obtain ⟨b2, rfl, hwc, hbf⟩ := hcut
        obtain rfl : W1 = wc := hwc.symm
        clear hwc HONE
        go_upto_if 51 with (fail)
        go_cut [] (fun wc => ∃ X3 cX, Hid (dy.length ≤ cX ∧ (Kd.int .u8).C wc X3 dy.length dy ∧ Below w.heap.size w wc ∧ wc.heap[w.heap.size]? = some (.cells #[.int .i64 a, .int .i64 b, .bool cb, .slice X3 dy.length cX, .slice A4 lx.length c4] 33 (0, 0)) ∧ wc.heap[w.heap.size + 1]? = some (.cells #[.int .i64 a, .int .i64 b, .bool cb, .slice B3 dy.length d3, .slice B4 lx.length d4] 33 (0, 0))))
        case first =>
          cases b2 with
          | false =>
            have hdd := hbf rfl
            subst hdd
            go_wp2
            go_meet
            case rel => exact ⟨A3, c3, Lib.hid ⟨l3, Kd.C_below H.out.1 HB1.out, HB1.out, HX1.out, HY1.out⟩⟩
          | true =>
            have hbs : Below w.heap.size w (W1.setCell ⟨w.heap.size, 3, none⟩ (.slice B3 dy.length d3)) := HB1.out.setCell (p := ⟨w.heap.size, 3, none⟩) (Nat.le_refl _) _
            have HBS := Lib.hid hbs
            clear hbs
            go_wp2
            go_meet
            case rel => exact ⟨B3, d3, Lib.hid ⟨m3, Kd.C_below H.out.2.2.1 HBS.out, HBS.out, blk_set HX1.out 3 _, blk_far HY1.out (p := ⟨w.heap.size, 3, none⟩) (by show w.heap.size + 1 ≠ w.heap.size; omega) _⟩⟩
        case rest =>
          obtain ⟨X3, cX, HV⟩ := hcut
          clear hbf
          clear a0 a1 a2 a3 af3 b0 b1 b2 b3 HX1 HY1 HB1 HW1
          have a0 : wc.cell? ⟨w.heap.size, 0, none⟩ = some (.int .i64 a) := blk_cell HV.out.2.2.2.1 0
          have a1 : wc.cell? ⟨w.heap.size, 1, none⟩ = some (.int .i64 b) := blk_cell HV.out.2.2.2.1 1
          have a2 : wc.cell? ⟨w.heap.size, 2, none⟩ = some (.bool cb) := blk_cell HV.out.2.2.2.1 2
          have a3 : wc.cell? ⟨w.heap.size, 3, none⟩ = some (.slice X3 dy.length cX) := blk_cell HV.out.2.2.2.1 3
          have a4 : wc.cell? ⟨w.heap.size, 4, none⟩ = some (.slice A4 lx.length c4) := blk_cell HV.out.2.2.2.1 4
          have b0 : wc.cell? ⟨w.heap.size + 1, 0, none⟩ = some (.int .i64 a) := blk_cell HV.out.2.2.2.2 0
          have b1 : wc.cell? ⟨w.heap.size + 1, 1, none⟩ = some (.int .i64 b) := blk_cell HV.out.2.2.2.2 1
          have b2 : wc.cell? ⟨w.heap.size + 1, 2, none⟩ = some (.bool cb) := blk_cell HV.out.2.2.2.2 2
          have b3 : wc.cell? ⟨w.heap.size + 1, 3, none⟩ = some (.slice B3 dy.length d3) := blk_cell HV.out.2.2.2.2 3
          have b4 : wc.cell? ⟨w.heap.size + 1, 4, none⟩ = some (.slice B4 lx.length d4) := blk_cell HV.out.2.2.2.2 4
          have hc1 : (convert 24 9 (.slice X3 dy.length cX)).run Tryd.prog wc = .ok (.string (strOfNums dy)) wc := Kd.C_string Tryd.underlying24 Tryd.underlying5 Tryd.underlying9 HV.out.2.1
          have hc2 : (convert 24 9 (.slice B3 dy.length d3)).run Tryd.prog wc = .ok (.string (strOfNums dy)) wc := Kd.C_string Tryd.underlying24 Tryd.underlying5 Tryd.underlying9 (Kd.C_below H.out.2.2.1 HV.out.2.2.1)
          have HD : Hid (tdpL ly ≤ n) := Lib.hid (by omega)
          clear HDD
          clear hd
          have HS : Hid (Below w.heap.size w wc ∧ wc.heap[w.heap.size]? = some (.cells #[.int .i64 a, .int .i64 b, .bool cb, .slice X3 dy.length cX, .slice A4 lx.length c4] 33 (0, 0)) ∧ wc.heap[w.heap.size + 1]? = some (.cells #[.int .i64 a, .int .i64 b, .bool cb, .slice B3 dy.length d3, .slice B4 lx.length d4] 33 (0, 0))) := Lib.hid ⟨HV.out.2.2.1, HV.out.2.2.2.1, HV.out.2.2.2.2⟩
          clear HV
          go_wp2
          clear a0 a1 a2 a3 a4 b0 b1 b2 b3 b4 hc1 hc2
          go_loopw [95] (fun i wr => ∃ k : Nat, k ≤ lx.length ∧ i = .int .i64 k ∧ Hid (Below w.heap.size w wr ∧ wr.heap[w.heap.size]? = some (.cells #[.int .i64 a, .int .i64 b, .bool cb, .slice X3 dy.length cX, .slice A4 lx.length c4] 33 (0, 0)) ∧ wr.heap[w.heap.size + 1]? = some (.cells #[.int .i64 a, .int .i64 b, .bool cb, .slice B3 dy.length d3, .slice B4 lx.length d4] 33 (0, 0)))) (fun i _ => lx.length - (intOf i).toNat)
          case atStart => exact ⟨0, Nat.zero_le _, rfl, HS⟩
          case round =>
            obtain ⟨k, hk, rfl, HR⟩ := hrel
            clear HS
            by_cases hlt : k < lx.length
            · have hBw := HR.out.1
              obtain ⟨ad, P3, p3, P4, p4, rfl, e0, e1, e2, e3, e4, u3, n3, u4, n4⟩ := at_T33 H.out.2.1 (k : Int) (by omega) (by omega)
              obtain ⟨bd, Q3, q3, Q4, q4, rfl, f0, f1, f2, f3, f4, y3, z3, y4, z4⟩ := at_T33 H.out.2.2.2 (k : Int) (by omega) (by omega)
              have hll := alkL_len HLL.out
              have hak := alkL_at HLL.out hlt
              rw [Int.toNat_natCast] at e0 e1 e2 e3 e4 f0 f1 f2 f3 f4
              have hmem : rd_T33 ly (k : Int) ∈ ly := by
                rw [rd_T33, Int.toNat_natCast, List.getD_eq_getElem?_getD, List.getElem?_eq_getElem (by omega)]
                exact List.getElem_mem (by omega)
              have hdk := Nat.le_trans (tdpL_mem hmem) HD.out
              obtain ⟨kx, hkx⟩ : ∃ kx, kx = rd_T33 lx (k : Int) := ⟨_, rfl⟩
              obtain ⟨ky, hky⟩ : ∃ ky, ky = rd_T33 ly (k : Int) := ⟨_, rfl⟩
              rw [← hkx] at e0 e1 e2 e3 e4 u3 n3 u4 n4 hak
              rw [← hky] at f0 f1 f2 f3 f4 y3 z3 y4 z4 hdk hak
              clear hkx hky hmem
              obtain ⟨s0, s1, s2, s3, s4⟩ := alk_parts hak
              have s5 := alkL_len s4
              rw [← s0] at f0
              rw [← s1] at f1
              rw [← s2] at f2
              rw [← s5] at f4 y4 z4
              have hdk2 : tdpL ky.f4 < n := by
                obtain ⟨ya, yb, yc, yd, yl⟩ := ky
                rw [tdp] at hdk
                show tdpL yl < n
                omega
              clear hak s0 s1 s2 s5 hdk
              replace e0 := (hBw.cell (World.block_lt_of_cell? w _ e0)).trans e0
              replace e1 := (hBw.cell (World.block_lt_of_cell? w _ e1)).trans e1
              replace e2 := (hBw.cell (World.block_lt_of_cell? w _ e2)).trans e2
              replace e3 := (hBw.cell (World.block_lt_of_cell? w _ e3)).trans e3
              replace e4 := (hBw.cell (World.block_lt_of_cell? w _ e4)).trans e4
              replace f0 := (hBw.cell (World.block_lt_of_cell? w _ f0)).trans f0
              replace f1 := (hBw.cell (World.block_lt_of_cell? w _ f1)).trans f1
              replace f2 := (hBw.cell (World.block_lt_of_cell? w _ f2)).trans f2
              replace f3 := (hBw.cell (World.block_lt_of_cell? w _ f3)).trans f3
              replace f4 := (hBw.cell (World.block_lt_of_cell? w _ f4)).trans f4
              have HC : Hid (∀ W, Below w.heap.size w W → Calls Tryd.prog 44 #[.agg #[.int .i64 kx.f0, .int .i64 kx.f1, .bool kx.f2, .slice P3 kx.f3.length p3, .slice P4 kx.f4.length p4], .agg #[.int .i64 kx.f0, .int .i64 kx.f1, .bool kx.f2, .slice Q3 ky.f3.length q3, .slice Q4 kx.f4.length q4]] W fun e w' => e = .returned (.bool true) ∧ Below W.heap.size W w') :=
                Lib.hid (fun W hW => HIH.out kx.f0 kx.f1 kx.f2 kx.f3 ky.f3 kx.f4 ky.f4 hdk2 s3 s4 P3 p3 P4 p4 Q3 q3 Q4 q4 W u3 (Kd.C_below n3 hW) u4 (Kd.C_below n4 hW) y3 (Kd.C_below z3 hW) y4 (Kd.C_below z4 hW))
              have s4c : wr.cell? ⟨w.heap.size, 4, none⟩ = some (.slice (some ad) lx.length c4) := blk_cell HR.out.2.1 4
              have t4 : wr.cell? ⟨w.heap.size + 1, 4, none⟩ = some (.slice (some bd) lx.length d4) := blk_cell HR.out.2.2 4
              have hmax := Kd.C_max H.out.2.1
              have hwk : wrap64 ((k : Int) + 1) = (k : Int) + 1 := by unfold wrap64; omega
              clear hmax
              clear hBw u3 n3 u4 n4 y3 z3 y4 z4 hdk2 s3 s4 hll
              go_wp2
              go_still_tail 10, (by kernel_rfl)
              change wpList _ _ _ _ _ wr.drew
              obtain ⟨w2, hw2⟩ : ∃ w2, w2 = wr.drew := ⟨_, rfl⟩
              rw [← hw2]
              have hB2 : Below wr.heap.size wr w2 := by rw [hw2]; exact (Below.refl _ _).drew
              have HB2 := Lib.hid hB2
              clear hw2 hB2
              go_wp2_with (go_at_call 44; with_reducible refine (HC.out w2 (HR.out.1.trans (HB2.out.mono HR.out.1.size))).mono ?_; rintro e w3 ⟨rfl, hb3⟩)
              have hb4 := HB2.out.trans (hb3.mono HB2.out.size)
              go_roundw
              case rel =>
                rw [hwk]
                clear hwk
                exact ⟨k + 1, by omega, rfl, Lib.hid ⟨HR.out.1.trans (hb4.mono HR.out.1.size), blk_below HR.out.2.1 hb4, blk_below HR.out.2.2 hb4⟩⟩
              case measure =>
                rw [hwk]
                clear hwk
                show lx.length - ((k : Int) + 1).toNat < lx.length - ((k : Int)).toNat
                rw [show ((k : Int) + 1).toNat = k + 1 from rfl, Int.toNat_natCast]
                omega
            · obtain rfl : k = lx.length := by omega
              go_wp2
              go_ret
              exact ⟨rfl, HR.out.1⟩
end Go.Proofs.YtbmcpjkhnhbjdaaDoor.Within

namespace Go.Proofs.YtbmcpjkhnhbjdaaDoor.Within
open Go.RowKit Go.Proofs.YtbmcpjkhnhbjdaaDoorW.PrintWords Go.Proofs.YtbmcpjkhnhbjdaaDoor.PFnEncode Go.Proofs.YtbmcpjkhnhbjdaaDoor.Tree Go.Proofs.YtbmcpjkhnhbjdaaDoor.Buf Go.Proofs.YtbmcpjkhnhbjdaaDoor.Num
set_option linter.unusedVariables false
set_option linter.unusedSimpArgs false

set_option maxHeartbeats 1600000 in
set_option maxRecDepth 100000 in
theorem same2_any (p : S27) (hd : tdp (mir p) ≤ 60) (hs : tsize (mir p) ≤ 200000) (A3 : Option Addr) (c3 : Nat) (A4 : Option Addr) (c4 : Nat) (y : S33) (hy : alk (mir p) y) (B3 : Option Addr) (d3 : Nat) (B4 : Option Addr) (d4 : Nat) (w : World)
    (l3 : p.f3.length ≤ c3) (h3 : (Kd.int .u8).C w A3 p.f3.length p.f3) (l4 : p.f4.length ≤ c4) (h4 : k27.C w A4 p.f4.length p.f4) (m3 : y.f3.length ≤ d3) (g3 : (Kd.int .u8).C w B3 y.f3.length y.f3) (m4 : y.f4.length ≤ d4) (g4 : k33.C w B4 y.f4.length y.f4) :
    Calls Tryd.prog 13 #[.agg #[.int .i64 p.f0, .int .i64 p.f1, .bool p.f2, .slice A3 p.f3.length c3, .slice A4 p.f4.length c4], .bool true, .agg #[.int .i64 y.f0, .int .i64 y.f1, .bool y.f2, .slice B3 y.f3.length d3, .slice B4 y.f4.length d4]] w fun e w' => e = .returned (.bool true) ∧ Below w.heap.size w w' := by
  obtain ⟨x, hx⟩ : ∃ x, x = mir p := ⟨_, rfl⟩
  rw [← hx] at hy
  have hwi : (wi 60 p 200000).1 = x := by rw [wi_all 60 p 200000 hd (by omega), hx]
  have HA : Hid (∀ W, Below w.heap.size w W → Calls Tryd.prog 45 #[.agg #[.int .i64 p.f0, .int .i64 p.f1, .bool p.f2, .slice A3 p.f3.length c3, .slice A4 p.f4.length c4]] W (Got W x)) := Lib.hid (fun W hW => by
    have := answer_any p A3 c3 A4 c4 W (Kd.C_below h3 hW) l3 (Kd.C_below h4 hW) l4 (lens_of p (by omega))
    rw [hwi] at this
    exact this)
  have HL : Hid (∀ (E3 : Option Addr) (e3 : Nat) (E4 : Option Addr) (e4 : Nat) (W : World), Below w.heap.size w W → x.f3.length ≤ e3 → (Kd.int .u8).C W E3 x.f3.length x.f3 → x.f4.length ≤ e4 → k33.C W E4 x.f4.length x.f4 → Calls Tryd.prog 44 #[.agg #[.int .i64 x.f0, .int .i64 x.f1, .bool x.f2, .slice E3 x.f3.length e3, .slice E4 x.f4.length e4], .agg #[.int .i64 y.f0, .int .i64 y.f1, .bool y.f2, .slice B3 y.f3.length d3, .slice B4 y.f4.length d4]] W fun e w' => e = .returned (.bool true) ∧ Below W.heap.size W w') :=
    Lib.hid (fun E3 e3 E4 e4 W hW q3 r3 q4 r4 => by
      obtain ⟨s0, s1, s2, s3, s4⟩ := alk_parts hy
      have s5 := alkL_len s4
      rw [← s5] at m4 g4 ⊢
      rw [← s0, ← s1, ← s2]
      exact alike2_any (tdpL y.f4 + 1) x.f0 x.f1 x.f2 x.f3 y.f3 x.f4 y.f4 (Nat.lt_succ_self _) s3 s4 E3 e3 E4 e4 B3 d3 B4 d4 W q3 r3 q4 r4 m3 (Kd.C_below g3 hW) m4 (Kd.C_below g4 hW))
  obtain ⟨W0, hW0⟩ : ∃ W0, W0 = (w.alloc (.cells #[.int .i64 p.f0, .int .i64 p.f1, .bool p.f2, .slice A3 p.f3.length c3, .slice A4 p.f4.length c4] 27)).alloc (.cells #[.int .i64 y.f0, .int .i64 y.f1, .bool y.f2, .slice B3 y.f3.length d3, .slice B4 y.f4.length d4] 33) := ⟨_, rfl⟩
  have hb0 : Below w.heap.size w W0 := by rw [hW0]; exact below_alloc (below_alloc (Below.refl _ _) _) _
  have hx0 : W0.heap[w.heap.size]? = some (.cells #[.int .i64 p.f0, .int .i64 p.f1, .bool p.f2, .slice A3 p.f3.length c3, .slice A4 p.f4.length c4] 27 (0, 0)) := by rw [hW0]; exact blk_alloc (blk_new _ _) _
  have hy0 : W0.heap[w.heap.size + 1]? = some (.cells #[.int .i64 y.f0, .int .i64 y.f1, .bool y.f2, .slice B3 y.f3.length d3, .slice B4 y.f4.length d4] 33 (0, 0)) := by
    have := blk_new (w.alloc (.cells #[.int .i64 p.f0, .int .i64 p.f1, .bool p.f2, .slice A3 p.f3.length c3, .slice A4 p.f4.length c4] 27)) (.cells #[.int .i64 y.f0, .int .i64 y.f1, .bool y.f2, .slice B3 y.f3.length d3, .slice B4 y.f4.length d4] 33)
    have e : (w.alloc (.cells #[.int .i64 p.f0, .int .i64 p.f1, .bool p.f2, .slice A3 p.f3.length c3, .slice A4 p.f4.length c4] 27)).heap.size = w.heap.size + 1 := by simp
    rw [e, ← hW0] at this
    exact this
  have hd0 : Below w.heap.size w W0.drew := hb0.drew
  have hx0' : W0.drew.heap[w.heap.size]? = some (.cells #[.int .i64 p.f0, .int .i64 p.f1, .bool p.f2, .slice A3 p.f3.length c3, .slice A4 p.f4.length c4] 27 (0, 0)) := hx0
  have hy0' : W0.drew.heap[w.heap.size + 1]? = some (.cells #[.int .i64 y.f0, .int .i64 y.f1, .bool y.f2, .slice B3 y.f3.length d3, .slice B4 y.f4.length d4] 33 (0, 0)) := hy0
  have a0 : W0.cell? ⟨w.heap.size, 0, none⟩ = some (.int .i64 p.f0) := blk_cell hx0 0
  have a1 : W0.cell? ⟨w.heap.size, 1, none⟩ = some (.int .i64 p.f1) := blk_cell hx0 1
  have a2 : W0.cell? ⟨w.heap.size, 2, none⟩ = some (.bool p.f2) := blk_cell hx0 2
  have a3 : W0.cell? ⟨w.heap.size, 3, none⟩ = some (.slice A3 p.f3.length c3) := blk_cell hx0 3
  have a4 : W0.cell? ⟨w.heap.size, 4, none⟩ = some (.slice A4 p.f4.length c4) := blk_cell hx0 4
  have b0 : W0.cell? ⟨w.heap.size + 1, 0, none⟩ = some (.int .i64 y.f0) := blk_cell hy0 0
  have b1 : W0.cell? ⟨w.heap.size + 1, 1, none⟩ = some (.int .i64 y.f1) := blk_cell hy0 1
  have b2 : W0.cell? ⟨w.heap.size + 1, 2, none⟩ = some (.bool y.f2) := blk_cell hy0 2
  have b3 : W0.cell? ⟨w.heap.size + 1, 3, none⟩ = some (.slice B3 y.f3.length d3) := blk_cell hy0 3
  have b4 : W0.cell? ⟨w.heap.size + 1, 4, none⟩ = some (.slice B4 y.f4.length d4) := blk_cell hy0 4
  have HY0 := Lib.hid hy0
  have HB0 := Lib.hid hd0
  have HW0 := Lib.hid hW0
  clear hy hx hwi h3 h4 g3 g4 l3 l4 m3 m4 hb0 hx0 hy0 hW0 hd hs hd0 hx0' hy0'
  go_enter Tryd.func13, Tryd.ntmps13
  go_wp2_with fail
  rw [← HW0.out]
  clear HW0
  go_region_with (first
    | (go_at_call 45
       with_reducible refine (HA.out _ HB0.out).mono ?_
       rintro e W1 ⟨E3, e3, E4, e4, rfl, q3, r3, q4, r4, hB1⟩
       have hB1' : Below W0.heap.size W0 W1 := ⟨hB1.os, hB1.tape, hB1.output, hB1.size, hB1.block⟩
       have hy1 := blk_below HY0.out hB1'
       have u0 : W1.cell? ⟨w.heap.size + 1, 0, none⟩ = some (.int .i64 y.f0) := blk_cell hy1 0
       have u1 : W1.cell? ⟨w.heap.size + 1, 1, none⟩ = some (.int .i64 y.f1) := blk_cell hy1 1
       have u2 : W1.cell? ⟨w.heap.size + 1, 2, none⟩ = some (.bool y.f2) := blk_cell hy1 2
       have u3 : W1.cell? ⟨w.heap.size + 1, 3, none⟩ = some (.slice B3 y.f3.length d3) := blk_cell hy1 3
       have u4 : W1.cell? ⟨w.heap.size + 1, 4, none⟩ = some (.slice B4 y.f4.length d4) := blk_cell hy1 4
       have hb1 : Below w.heap.size w W1 := HB0.out.trans (hB1.mono HB0.out.size)
       have HC1 := Lib.hid (HL.out E3 e3 E4 e4 W1 hb1 q3 r3 q4 r4)
       have HB1 := Lib.hid hb1
       clear q3 r3 q4 r4 hB1 hB1' hy1 hb1)
    | (go_at_call 44
       with_reducible refine HC1.out.mono ?_
       rintro e W2 ⟨rfl, hB2⟩
       have HB2 := Lib.hid (HB1.out.trans (hB2.mono HB1.out.size))
       clear hB2)
    | (go_at_call 11
       refine (works_any _).mono ?_
       rintro e W3 ⟨rfl, hB3⟩
       have HB3 := Lib.hid (HB2.out.trans (hB3.mono HB2.out.size))
       clear hB3))
  all_goals (
    go_wp2
    go_ret
    exact ⟨rfl, HB3.out⟩)
end Go.Proofs.YtbmcpjkhnhbjdaaDoor.Within
namespace Go.Proofs.YtbmcpjkhnhbjdaaDoor.Ber
open Go.RowKit Go.Proofs.YtbmcpjkhnhbjdaaDoorW.PrintWords Go.Proofs.YtbmcpjkhnhbjdaaDoor.Buf Go.Proofs.YtbmcpjkhnhbjdaaDoor.Pk Go.Proofs.YtbmcpjkhnhbjdaaDoor.Num Go.Proofs.YtbmcpjkhnhbjdaaDoor.PFnEncode
set_option linter.unusedVariables false
set_option linter.unusedSimpArgs false

/-- AppendChild: parent and child lie in blocks apart. -/
theorem app_set {lo : Nat} {okx oky : Nat → Prop} {q qc : Nat} {x y : Pk} {n m : Nat} {W : World} (hx : IsPk W lo okx q x) (hy : IsPk W lo oky qc y) (hd : ∀ k, oky k → ¬ okx k) (hlo : lo ≤ W.heap.size) (tx : Top x n) (ty : Top y m) (hn : n < 1000000000000) (hm : m < 1000000000000) :
    Calls Tryd.prog 93 #[.pointer (some ⟨q, 0, none⟩), .pointer (some ⟨qc, 0, none⟩)] W fun e w' => (∃ u, e = .returned u) ∧ IsPk w' lo (fun k => okx k ∨ oky k ∨ W.heap.size ≤ k) q (addK x y) ∧ Only okx W w' := by
  obtain ⟨db, v, bv, cv, P⟩ := parts_of hx.bound
  obtain ⟨dq, vq, bq, cq, C⟩ := parts_of hy.bound
  have hl := tx.ln
  have hl2 := ty.ln
  have hk := tx.nk
  have h0 := ty.c0
  have h1 := ty.c1
  have h2 := ty.cm
  have e1 : y.cls = y.cls / 64 * 64 := by omega
  have e2 : y.typ = if decide (y.typ = 32) = true then 32 else 0 := by
    rcases ty.ty with h | h <;> simp [h]
  refine (append_any (y.cls / 64) y.tag (decide (y.typ = 32)) (by omega) (by omega) ty.t0 ty.t1 x y e1 e2 rfl (by omega) (by omega) (by omega) W P C (fun j h1 h2 => hd j h1.1 h2.1) (fun j h1 => h1.2.2) hlo (fun j h1 => h1.2.1)).mono ?_
  rintro e W7 ⟨hu, hO7, v7, cv7, hP7⟩
  exact ⟨hu, (hP7.okmono (ok' := fun k => okx k ∨ oky k ∨ W.heap.size ≤ k) (fun k hk => hk.elim (fun h => .inl h.1) (fun h => h.elim (fun h => .inr (.inl h.1)) (fun h => .inr (.inr h))))).pk, hO7.mono (fun i hi h => h.1)⟩

end Go.Proofs.YtbmcpjkhnhbjdaaDoor.Ber
namespace Go.Proofs.YtbmcpjkhnhbjdaaDoor.Ber
open Go.RowKit Go.Proofs.YtbmcpjkhnhbjdaaDoorW.PrintWords Go.Proofs.YtbmcpjkhnhbjdaaDoor.PFnEncode Go.Proofs.YtbmcpjkhnhbjdaaDoor.Tree Go.Proofs.YtbmcpjkhnhbjdaaDoor.Buf Go.Proofs.YtbmcpjkhnhbjdaaDoor.Pk Go.Proofs.YtbmcpjkhnhbjdaaDoor.Within Go.Proofs.YtbmcpjkhnhbjdaaDoor.Num
set_option linter.unusedVariables false
set_option linter.unusedSimpArgs false

/-- what a request's method does to an envelope; blocks from lb on may change -/
def AppendsG (lb : Nat) (F : FuncId) (v : Value) (G : Pk → Pk) (w : World) : Prop :=
  ∀ (q : Nat) (E : Pk) (n : Nat) (W : World), At W W w.heap.size q E → Top E n → n < 100000000000 → Below w.heap.size w W → Calls Tryd.prog F #[v, .pointer (some ⟨q, 0, none⟩)] W fun e w' => e = .returned .nilIface ∧ (∃ lo, IsPk w' lo (fun _ => True) q (G E)) ∧ Below lb W w'
set_option maxHeartbeats 3200000 in
set_option maxRecDepth 100000 in
theorem envelope_g (T F : Nat) (v u : Value) (G : Pk → Pk) (lb : Nat) (id : Int) (w : World) (hid : -9223372036854775808 ≤ id ∧ id ≤ 9223372036854775807)
    (hta : ∀ w : World, (Instr.typeAssert (.iface T v) 20 200 true).run Tryd.prog w = .ok (.tuple #[.iface T v, .bool true]) w)
    (hm : ∀ U : World, Below w.heap.size w U → (method 366 T v "goldap/pub/goldap.appendTo").run Tryd.prog U = .ok (F, u) U)
    (hcf : ∀ (args : Array Value) (w : World), (callFunc F args).run Tryd.prog w = .ok (.enter F args) w)
    (hlb : lb ≤ w.heap.size) (happ : AppendsG lb F u G w) :
    Calls Tryd.prog 81 #[.int .i64 id, .iface T v] w fun e w' => ∃ q lo, e = .returned (.pointer (some ⟨q, 0, none⟩)) ∧ IsPk w' lo (fun _ => True) q (G (env0 id)) ∧ Below lb w w' := by
  have HAPP := Lib.hid happ
  have HLB := Lib.hid hlb
  have HM := Lib.hid hm
  clear hm
  have HID := Lib.hid hid
  have HTOP := Lib.hid (env0_top id hid)
  have s1 : Top (bare 0 32 16 .nilIface ⟨#[76, 68, 65, 80, 32, 82, 101, 113, 117, 101, 115, 116]⟩) 0 := bare_top _ _ _ _ _ (by decide) (by decide) (by decide) (Or.inr rfl) (by decide) (by decide)
  have s2 : Top (prim 0 0 2 (.iface 2 (.int .i64 id)) (whole id) ⟨#[77, 101, 115, 115, 97, 103, 101, 73, 68]⟩) 8 := prim_top _ _ _ _ _ _ (by decide) (by decide) (by decide) (Or.inl rfl) (by decide) (by decide) (by have := wl_le8 id hid; rw [whole, be_length]; exact this)
  have HT := Lib.hid (And.intro s1 s2)
  clear happ hid s1 s2
  go_enter Tryd.func81, Tryd.ntmps81
  go_wp2_with (first
    | (go_at_call 87
       with_reducible refine (encode_at 0 32 16 _ w).mono ?_
       rintro e W1 ⟨q, rfl, hA1, hB1⟩
       have HA1 := Lib.hid hA1
       have HB1 := Lib.hid hB1
       clear hA1 hB1)
    | (go_at_call 103
       with_reducible refine (newInt_i64 0 0 2 id _ W1 HID.out).mono ?_
       rintro e W2 h2
       obtain ⟨q2, rfl, hA2, hB2⟩ := h2.at
       have HC2 := Lib.hid (app_at (HA1.out.on hB2) hA2 (Nat.le_refl _) HT.out.1 HT.out.2 (by decide) (by decide))
       have HB2 := Lib.hid (HB1.out.trans (hB2.mono HB1.out.size))
       clear h2 hA2 hB2 HA1 HB1)
    | (go_at_call 93
       with_reducible refine HC2.out.mono ?_
       rintro e W3 ⟨⟨u_, rfl⟩, hA3, hB3⟩
       have hb3 := HB2.out.trans hB3
       have HC3 := Lib.hid (HAPP.out q _ _ W3 hA3 HTOP.out (by decide) hb3)
       have HB3 := Lib.hid hb3
       have hm3 := HM.out W3 hb3
       clear hA3 hB3 hb3 HC2 HB2)
    | (with_reducible refine HC3.out.mono ?_
       rintro e W4 ⟨rfl, hA4, hB4⟩
       have HA4 := Lib.hid hA4
       have HB4 := Lib.hid ((HB3.out.mono HLB.out).trans hB4)
       clear hA4 hB4 HC3 HB3))
  go_ret
  obtain ⟨lo, hi⟩ := HA4.out
  exact ⟨q, lo, rfl, hi, HB4.out⟩

set_option maxHeartbeats 3200000 in
set_option maxRecDepth 100000 in
theorem raw_app (lo qo : Nat) (op : Pk) (l : List Ce) (A : Option Addr) (c : Nat) (w : World) (hop : IsPk w lo (fun _ => True) qo op) (hlo : lo ≤ w.heap.size) (hto : Top op 100000000000) (hn5 : l.length ≤ 5) (hl : ∀ e, e ∈ l → CtlAt (fun k => k < w.heap.size) w e) (hC : kCe.C w A l.length l) :
    AppendsG lo 149 (.agg #[.pointer (some ⟨qo, 0, none⟩), .slice A l.length c]) (fun E => if l.length = 0 then addK E op else addK (addK E op) (pCtls l)) w := by
  intro q E n W hE tE hn hb
  obtain ⟨W0, hW0⟩ : ∃ W0, W0 = W.alloc (.cells #[.pointer (some ⟨qo, 0, none⟩), .slice A l.length c] 145) := ⟨_, rfl⟩
  have hb0 : Below W.heap.size W W0 := by rw [hW0]; exact below_alloc (Below.refl _ _) _
  have hs0 : W0.heap.size = W.heap.size + 1 := by rw [hW0]; simp
  have hz0 : W0.heap[W.heap.size]? = some (.cells #[.pointer (some ⟨qo, 0, none⟩), .slice A l.length c] 145 (0, 0)) := by rw [hW0]; exact blk_new _ _
  have hbw : Below w.heap.size w W0 := hb.trans (hb0.mono hb.size)
  have HE0 : Hid (IsPk W0 lo (fun k => w.heap.size ≤ k ∧ k < W.heap.size) q E) := Lib.hid (((hE.is.bound.mono (fun k hk => hk.2)).lower hlo).below hb0)
  have HO0 : Hid (IsPk W0 lo (fun k => k < w.heap.size) qo op) := Lib.hid ((hop.bound.mono (fun k hk => hk.2.2)).below hbw)
  have c00 : W0.cell? ⟨W.heap.size, 0, none⟩ = some (.pointer (some ⟨qo, 0, none⟩)) := blk_cell hz0 0
  have TE := Lib.hid tE
  have HTO := Lib.hid hto
  have HT2 : Hid (Top (addK E op) (n + 14 + 100000000000)) := Lib.hid (addK_top tE hto (by decide))
  have HTC : Hid (Top (pCtls l) 20000000) := Lib.hid (pCtls_fine l (fun e he => (hl e he).fine) hn5).1
  have HB0 := Lib.hid hb0
  have HBw := Lib.hid hbw
  have HBl := Lib.hid hb.size
  have HS0 := Lib.hid hs0
  have HZ0 := Lib.hid hz0
  have HW0 := Lib.hid hW0
  have HLO := Lib.hid hlo
  have HL := Lib.hid hl
  have HC := Lib.hid hC
  clear hE tE hb hb0 hs0 hz0 hbw hW0 hop hto hlo hl hC
  by_cases h0 : l.length = 0
  · rw [h0] at HZ0 HW0 ⊢
    clear h0
    go_enter Tryd.func149, Tryd.ntmps149
    go_wp2_with (first
      | (go_at_call 93
         first
         | (rw [← HW0.out]; with_reducible refine (app_set HE0.out HO0.out (fun k hk h => by have := h.1; omega) (by have := HLO.out; have := HBw.out.size; omega) TE.out HTO.out (by omega) (by decide)).mono ?_
            rintro e W1 ⟨⟨u1, rfl⟩, hA, hO⟩
            have HB1 : Hid (Below w.heap.size W0 W1) := Lib.hid (hO.below HBw.out.size (fun i hi => hi.1))
            have HZ1 : Hid (W1.heap[W.heap.size]? = some (.cells #[.pointer (some ⟨qo, 0, none⟩), .slice A 0 c] 145 (0, 0))) := Lib.hid ((hO.block _ (by have := HS0.out; omega) (fun h => by have := h.2; omega)).trans HZ0.out)
            have c1 : W1.cell? ⟨W.heap.size, 1, none⟩ = some (.slice A 0 c) := blk_cell HZ1.out 1
            have HA1 := Lib.hid hA
            clear hA hO)))
    go_ret
    exact ⟨rfl, ⟨lo, by first | exact HA1.out.mono (fun _ _ => trivial) | (rw [if_pos rfl]; exact HA1.out.mono (fun _ _ => trivial))⟩, (HB0.out.mono (Nat.le_trans HLO.out HBl.out)).trans (HB1.out.mono HLO.out)⟩
  · have hpos : 0 < l.length := by omega
    go_enter Tryd.func149, Tryd.ntmps149
    go_wp2_with (first
      | (go_at_call 93
         first
         | (rw [← HW0.out]; with_reducible refine (app_set HE0.out HO0.out (fun k hk h => by have := h.1; omega) (by have := HLO.out; have := HBw.out.size; omega) TE.out HTO.out (by omega) (by decide)).mono ?_
            rintro e W1 ⟨⟨u1, rfl⟩, hA, hO⟩
            have HB1 : Hid (Below w.heap.size W0 W1) := Lib.hid (hO.below HBw.out.size (fun i hi => hi.1))
            have HZ1 : Hid (W1.heap[W.heap.size]? = some (.cells #[.pointer (some ⟨qo, 0, none⟩), .slice A l.length c] 145 (0, 0))) := Lib.hid ((hO.block _ (by have := HS0.out; omega) (fun h => by have := h.2; omega)).trans HZ0.out)
            have c1 : W1.cell? ⟨W.heap.size, 1, none⟩ = some (.slice A l.length c) := blk_cell HZ1.out 1
            have HA1 := Lib.hid hA
            clear hA hO)
         | (with_reducible refine (app_set HX2.out HS2.out (fun k hk h => by have := h.2; omega) (by have := HLO.out; have := HBw.out.size; have := HB1.out.size; have := HB2.out.size; omega) HT2.out HTC.out (by omega) (by decide)).mono ?_
            rintro e W3 ⟨⟨u3, rfl⟩, hA, hO⟩
            have HA3 := Lib.hid hA
            have HB3 : Hid (Below lo W2 W3) := Lib.hid (hO.below (by have := HLO.out; have := HBw.out.size; have := HB1.out.size; have := HB2.out.size; omega) (fun i hi => hi.1))
            clear hA hO))
      | (go_at_call 137
         with_reducible refine (ctls_any l hn5 A c W1 (fun e he => ((HL.out e he).below (HBw.out.trans HB1.out)).mono (fun k hk => Nat.lt_of_lt_of_le hk (HBw.out.trans HB1.out).size)) (Kd.C_below HC.out (HBw.out.trans HB1.out))).mono ?_
         rintro e W2 ⟨qs, rfl, hA, hB⟩
         have HX2 : Hid (IsPk W2 lo (fun k => lo ≤ k ∧ k < W1.heap.size) q (addK E op)) := Lib.hid ((HA1.out.bound.mono (fun k hk => hk.2)).below hB)
         have HS2 : Hid (IsPk W2 lo (fun k => W1.heap.size ≤ k) qs (pCtls l)) := Lib.hid ((hA.is.bound.mono (fun k hk => hk.2.1)).lower (by have := HLO.out; have := HBw.out.size; have := HB1.out.size; omega))
         have HB2 := Lib.hid hB
         clear hA hB))
    go_ret
    exact ⟨rfl, ⟨lo, by first | exact HA3.out.mono (fun _ _ => trivial) | (rw [if_neg (by omega)]; exact HA3.out.mono (fun _ _ => trivial))⟩, (HB0.out.mono (Nat.le_trans HLO.out HBl.out)).trans ((HB1.out.mono HLO.out).trans ((HB2.out.mono (by have := HLO.out; have := HBw.out.size; have := HB1.out.size; omega)).trans HB3.out))⟩
end Go.Proofs.YtbmcpjkhnhbjdaaDoor.Ber
namespace Go.Proofs.YtbmcpjkhnhbjdaaDoor.Ber
open Go.RowKit Go.Proofs.YtbmcpjkhnhbjdaaDoorW.PrintWords Go.Proofs.YtbmcpjkhnhbjdaaDoor.PFnEncode Go.Proofs.YtbmcpjkhnhbjdaaDoor.Tree Go.Proofs.YtbmcpjkhnhbjdaaDoor.Buf Go.Proofs.YtbmcpjkhnhbjdaaDoor.Pk Go.Proofs.YtbmcpjkhnhbjdaaDoor.Within Go.Proofs.YtbmcpjkhnhbjdaaDoor.Num
set_option linter.unusedVariables false
set_option linter.unusedSimpArgs false

def okCtl (c : S79) : Prop := (c.f0 = 0 ∧ c.f1.size ≤ 200 ∧ c.f3.length ≤ 200) ∨ (c.f0 = 1 ∧ 0 ≤ c.f4 ∧ c.f4 < 2147483648 ∧ c.f5.length ≤ 200) ∨ c.f0 = 2
def dC (c : S79) : S27 := if c.f0 = 0 then ctlD c.f1 c.f2 (strOfNums c.f3) else if c.f0 = 1 then pagD c.f4 c.f5 else manD c.f2
theorem ctl_any (x : S79) (hx : okCtl x) (A3 : Option Addr) (c3 : Nat) (A5 : Option Addr) (c5 : Nat) (w : World) (g3 : B8.C w A3 x.f3.length x.f3) (g5 : B8.C w A5 x.f5.length x.f5) :
    Calls Tryd.prog 80 #[.agg #[.int .i64 x.f0, .string x.f1, .bool x.f2, .slice A3 x.f3.length c3, .int .i64 x.f4, .slice A5 x.f5.length c5]] w (GotCtl w (dC x)) := by
  obtain ⟨k, o, b, v, n, ck⟩ := x
  simp only [okCtl] at hx
  simp only at g3 g5 ⊢
  rcases hx with ⟨rfl, h1, h2⟩ | ⟨rfl, h1, h2, h3⟩ | rfl
  · exact ctl0_any o b v n A3 c3 A5 _ c5 w (by omega) (by omega) g3
  · exact ctl1_any o b _ n A3 c3 A5 ck c5 w h1 h2 (by omega) g5
  · exact ctl2_any o b _ n A3 c3 A5 _ c5 w

/-- the loop's state -/
structure MsgInv (W1 : World) (qo : Nat) (ls : List S79) (W : World) (v : Value) (l : List Ce) (k : Nat) : Prop where
  hr : W.heap[W1.heap.size]? = some (.cells #[.pointer (some ⟨qo, 0, none⟩), v] 145 (0, 0))
  row : kCe.R 147 W (W1.heap.size + 1) (fun k => W1.heap.size < k) v l
  ctl : ∀ e, e ∈ l → CtlAt (fun k => W1.heap.size < k ∧ some k ≠ v.ownBlock) W e
  dat : (l.map fun e => trOf e.2.2) = (ls.take k).map dC
  bel : Below W1.heap.size W1 W
theorem MsgInv.below {W1 W W' : World} {qo k : Nat} {ls : List S79} {v : Value} {l : List Ce} (h : MsgInv W1 qo ls W v l k) (hb : Below W.heap.size W W') : MsgInv W1 qo ls W' v l k :=
  ⟨blk_below h.hr hb, Kd.R_below h.row hb, fun e he => (h.ctl e he).below hb, h.dat, h.bel.trans (hb.mono h.bel.size)⟩
theorem MsgInv.lt {W1 W : World} {qo k : Nat} {ls : List S79} {v : Value} {l : List Ce} (h : MsgInv W1 qo ls W v l k) : W1.heap.size < W.heap.size := blk_lt h.hr
theorem MsgInv.ne {W1 W : World} {qo k : Nat} {ls : List S79} {v : Value} {l : List Ce} (h : MsgInv W1 qo ls W v l k) : some W1.heap.size ≠ v.ownBlock := fun he => by
  have := Kd.R_base h.row _ he.symm
  omega
theorem MsgInv.app {W1 W w1 : World} {qo k : Nat} {ls : List S79} {v v1 : Value} {l : List Ce} {e : Ce} {x : S79} (h : MsgInv W1 qo ls W v l k) (hR : kCe.R 147 w1 (W1.heap.size + 1) (fun k => W1.heap.size < k) v1 (l ++ [e])) (hb : Below (W1.heap.size + 1) W w1) (hg : W.grownBy w1 v.ownBlock) (hat : v1.ownBlock = v.ownBlock ∨ ∃ b, v1.ownBlock = some b ∧ W.heap.size ≤ b)
    (hc : CtlAt (fun k => W1.heap.size < k ∧ some k ≠ v.ownBlock) W e) (ht : trOf e.2.2 = dC x) (hx : (ls.take (k + 1)).map dC = (ls.take k).map dC ++ [dC x]) : MsgInv W1 qo ls (w1.setCell ⟨W1.heap.size, 1, none⟩ v1) v1 (l ++ [e]) (k + 1) := by
  refine ⟨blk_set (blk_grown h.hr hg h.ne) 1 v1, Kd.R_far hR (p := ⟨W1.heap.size, 1, none⟩) (fun k hk => Nat.ne_of_gt hk) v1, fun e' he' => ?_, ?_, h.bel.trans ((hb.mono (Nat.le_succ _)).setCell (p := ⟨W1.heap.size, 1, none⟩) (Nat.le_refl _) v1)⟩
  · refine CtlAt.step (W := w1) ?_ (fun k hk _ => Below.heap_setCell w1 ⟨W1.heap.size, 1, none⟩ v1 k (Nat.ne_of_gt hk.1))
    rcases List.mem_append.1 he' with h1 | h1
    · exact (h.ctl e' h1).after hg hat
    · rw [List.mem_singleton.1 h1]
      exact hc.after hg hat
  · rw [List.map_append, h.dat, hx, List.map_singleton, ht]
set_option maxHeartbeats 1600000 in
set_option maxRecDepth 100000 in
/-- safely: what the closure answers, and the memory as it left it. -/
theorem safely_msg (cap : Array Value) (b : Bool) (Q : World → Prop) (w : World)
    (h : ∀ W, W = w.alloc (.cells #[.bool false] 4) → Calls Tryd.prog 78 cap W fun e w' => e = .returned (.bool b) ∧ Q w' ∧ w'.heap[w.heap.size]? = some (.cells #[.bool false] 4 (0, 0))) :
    Calls Tryd.prog 77 #[.func (.func 78) #[] cap] w fun e w' => e = .returned (.bool b) ∧ ∃ W, Q W ∧ w' = W.setCell ⟨w.heap.size, 0, none⟩ (.bool b) := by
  have hmf : ∀ (fn : Fn) (first cap : Array Value) (w : World), (Instr.makeFunc fn first cap).run Tryd.prog w = .ok (.func fn first cap) w := fun _ _ _ _ => rfl
  obtain ⟨W1, hW1⟩ : ∃ W1, W1 = w.alloc (.cells #[.bool false] 4) := ⟨_, rfl⟩
  have HC := Lib.hid (h W1 hW1)
  clear h
  go_enter_defers Tryd.func77, Tryd.ntmps77
  go_wp2_with (go_at_call 78
               rw [← hW1]
               with_reducible refine HC.out.mono ?_
               rintro e W2 ⟨rfl, hQ, hx⟩
               have c0 : W2.cell? ⟨w.heap.size, 0, none⟩ = some (.bool false) := blk_cell hx 0
               have f0 := blk_frozen hx 0)
  refine leaves_cons (f := 92) (args := #[.pointer (some ⟨w.heap.size, 0, none⟩)]) (by simp) (by simp [go_sem]) ?_
  refine (catch_idle ⟨w.heap.size, 0, none⟩ _).mono ?_
  rintro e u' w'' ⟨rfl, rfl, rfl⟩
  have h5 := blk_set hx 0 (.bool b)
  have c5 := blk_cell h5 0
  simp at c5
  simp [Leaves, settle, results, Tryd.results77, go_sem, c5]
  exact ⟨W2, hQ, rfl⟩
end Go.Proofs.YtbmcpjkhnhbjdaaDoor.Ber
namespace Go.Proofs.YtbmcpjkhnhbjdaaDoor.Ber
open Go.RowKit Go.Proofs.YtbmcpjkhnhbjdaaDoorW.PrintWords Go.Proofs.YtbmcpjkhnhbjdaaDoor.PFnEncode Go.Proofs.YtbmcpjkhnhbjdaaDoor.Tree Go.Proofs.YtbmcpjkhnhbjdaaDoor.Buf Go.Proofs.YtbmcpjkhnhbjdaaDoor.Pk Go.Proofs.YtbmcpjkhnhbjdaaDoor.Within Go.Proofs.YtbmcpjkhnhbjdaaDoor.Num
set_option linter.unusedVariables false
set_option linter.unusedSimpArgs false

theorem goodL_of {a b : Int} {c : Bool} {d : List Int} {l : List S27} (h : good (mir ⟨a, b, c, d, l⟩) = true) : goodL (mirL l) = true := by
  rw [mir, good] at h
  simp only [Bool.and_eq_true] at h
  exact h.2
mutual
theorem tr_pkOf : ∀ p : S27, good (mir p) = true → trOf (pkOf p) = p
  | ⟨a, b, c, d, l⟩, h => by
    have f := fit_of h
    have hl := tr_pkL l (goodL_of h)
    have e : a * 64 / 64 = a := by omega
    rw [pkOf, trOf, e]
    cases c with
    | true =>
      have : d = [] := f.dat rfl
      subst this
      simp [hl]
    | false =>
      have : l = [] := f.kid rfl
      subst this
      simp
theorem tr_pkL : ∀ l : List S27, goodL (mirL l) = true → trL (pkL l) = l
  | [], _ => by rw [pkL, trL]
  | x :: xs, h => by
    rw [mirL, goodL, Bool.and_eq_true] at h
    rw [pkL, trL, tr_pkOf x h.1, tr_pkL xs h.2]
end
theorem top_pkOf (p : S27) (h : good (mir p) = true) (ht : tsize (mir p) ≤ 1000000) : Top (pkOf p) 20000000 := by
  have f := fit_of h
  have h1 := bytesT_le _ h (by omega)
  rw [← pk_bytes h] at h1
  simp only [pkBytes, List.length_append] at h1
  have hk : (pkOf p).kids.length ≤ p.f4.length := by
    obtain ⟨a, b, c, d, l⟩ := p
    rw [pkOf]
    cases c
    · exact Nat.zero_le _
    · exact Nat.le_of_eq (pkL_length l)
  have a0 := f.a0
  have a3 := f.a3
  have hn := f.num
  have e1 := pkOf_cls p
  have e2 := pkOf_typ p
  have e3 := pkOf_tag p
  refine ⟨by omega, by omega, by omega, ?_, by rw [e3]; exact f.b0, by rw [e3]; exact f.b1, by omega, by omega⟩
  rw [e2]
  cases p.f2 <;> simp
mutual
theorem ok_pkOf : ∀ p : S27, good (mir p) = true → tsize (mir p) ≤ 1000000 → okP (pkOf p)
  | ⟨a, b, c, d, l⟩, h, ht => by
    refine okP_top (top_pkOf _ h ht) (by decide) ?_
    rw [pkOf]
    cases c with
    | true => exact ok_pkL l (goodL_of h) (by rw [mir, tsize] at ht; omega)
    | false => exact okL_nil
theorem ok_pkL : ∀ l : List S27, goodL (mirL l) = true → tsizeL (mirL l) ≤ 1000000 → okL (pkL l)
  | [], _, _ => by rw [pkL, okL]; trivial
  | x :: xs, h, ht => by
    rw [mirL, goodL, Bool.and_eq_true] at h
    rw [mirL, tsizeL] at ht
    rw [pkL, okL]
    exact ⟨ok_pkOf x h.1 (by omega), ok_pkL xs h.2 (by omega)⟩
end
theorem kids_ok {p : Pk} (h : okP p) : okL p.kids := by
  obtain ⟨cls, typ, tag, val, bv, data, kids, desc⟩ := p
  rw [okP] at h
  exact h.2.2.2.2.2
theorem fine_pkOf (p : S27) (h : good (mir p) = true) (ht : tsize (mir p) ≤ 1000000) : Fine (pkOf p) 20000000 := ⟨top_pkOf p h ht, kids_ok (ok_pkOf p h ht)⟩
end Go.Proofs.YtbmcpjkhnhbjdaaDoor.Ber
namespace Go.Proofs.YtbmcpjkhnhbjdaaDoor.Ber
open Go.RowKit Go.Proofs.YtbmcpjkhnhbjdaaDoorW.PrintWords Go.Proofs.YtbmcpjkhnhbjdaaDoor.PFnEncode Go.Proofs.YtbmcpjkhnhbjdaaDoor.Tree Go.Proofs.YtbmcpjkhnhbjdaaDoor.Buf Go.Proofs.YtbmcpjkhnhbjdaaDoor.Pk Go.Proofs.YtbmcpjkhnhbjdaaDoor.Within Go.Proofs.YtbmcpjkhnhbjdaaDoor.Num
set_option linter.unusedVariables false
set_option linter.unusedSimpArgs false

/-- a message as data -/
def msgD (id : Int) (p : S27) (ds : List S27) : S27 := ⟨0, 16, true, [], [⟨0, 2, false, whole id, []⟩, p] ++ (if ds.isEmpty then [] else [⟨2, 0, true, [], ds⟩])⟩
def gMsg (p : S27) (l : List Ce) (E : Pk) : Pk := if l.length = 0 then addK E (pkOf p) else addK (addK E (pkOf p)) (pCtls l)
theorem gMsg_tr (id : Int) (p : S27) (hp : good (mir p) = true) (l : List Ce) (ds : List S27) (h : (l.map fun e => trOf e.2.2) = ds) : trOf (gMsg p l (env0 id)) = msgD id p ds := by
  have h1 := tr_pkOf p hp
  have h2 := tr_ctls l
  rw [h] at h2
  unfold gMsg
  have hlen : ds.length = l.length := by rw [← h, List.length_map]
  generalize pkOf p = x at h1 ⊢
  generalize pCtls l = y at h2 ⊢
  subst h1
  cases ds with
  | nil =>
    have : l.length = 0 := by simpa using hlen.symm
    rw [if_pos this]
    unfold msgD env0 addK bare prim
    simp [trOf, trL]
  | cons d ds =>
    have : ¬ l.length = 0 := by rw [← hlen]; simp
    rw [if_neg this]
    unfold msgD env0 addK bare prim
    simp [trOf, trL, h2]
theorem env0_fine (n : Int) (h : -9223372036854775808 ≤ n ∧ n ≤ 9223372036854775807) : Fine (env0 n) 30 := by
  refine (fine_add (n := 0) (m := 8) (fine_bare _ _ _ _ _ (by decide) (by decide) (by decide) (Or.inr rfl) (by decide) (by decide)) (fine_prim _ _ _ _ _ _ (by decide) (by decide) (by decide) (Or.inl rfl) (by decide) (by decide) (whole_len n h)) (by decide)).le (by decide)
theorem gMsg_fine (id : Int) (hid : -9223372036854775808 ≤ id ∧ id ≤ 9223372036854775807) (p : S27) (hp : good (mir p) = true) (ht : tsize (mir p) ≤ 1000000) (l : List Ce) (hl : ∀ e, e ∈ l → Fine e.2.2 3000000) (hn : l.length ≤ 5) : Fine (gMsg p l (env0 id)) 50000000 := by
  unfold gMsg
  split
  · exact (fine_add (env0_fine id hid) (fine_pkOf p hp ht) (by decide)).le (by decide)
  · exact (fine_add (fine_add (env0_fine id hid) (fine_pkOf p hp ht) (by decide)) (pCtls_fine l hl hn) (by decide)).le (by decide)
theorem Raw_ta (v : Value) (x y : Value) : ∀ w : World, (Instr.typeAssert (.iface 145 (.agg #[x, y])) 20 200 true).run Tryd.prog w = .ok (.tuple #[.iface 145 (.agg #[x, y]), .bool true]) w := fun _ => by kernel_rfl
theorem Raw_m (x y : Value) : ∀ w : World, (method 366 145 (.agg #[x, y]) "goldap/pub/goldap.appendTo").run Tryd.prog w = .ok (149, .agg #[x, y]) w := fun _ => by kernel_rfl
theorem Raw_cf : ∀ (args : Array Value) (w : World), (callFunc 149 args).run Tryd.prog w = .ok (.enter 149 args) w := fun _ _ => by kernel_rfl
theorem info_ctl : (Tryd.prog.info? 147).map (fun i => (i.zero, i.size, i.bytes)) = some (some .nilIface, 1, 16) := by kernel_rfl
/-- Envelope of the message -/
theorem env_msg {W1 wr : World} {qo : Nat} {ls : List S79} {v : Value} {l : List Ce} {id : Int} (hid : -9223372036854775808 ≤ id ∧ id ≤ 9223372036854775807) (p : S27) (hp : good (mir p) = true) (ht : tsize (mir p) ≤ 1000000) (lo : Nat) (hlo : lo ≤ W1.heap.size) (hop : IsPk W1 lo (fun _ => True) qo (pkOf p))
    (h : MsgInv W1 qo ls wr v l ls.length) (hn : ls.length ≤ 5) :
    Calls Tryd.prog 81 #[.int .i64 id, .iface 145 (.agg #[.pointer (some ⟨qo, 0, none⟩), v])] wr fun e w' => ∃ q lo', e = .returned (.pointer (some ⟨q, 0, none⟩)) ∧ IsPk w' lo' (fun _ => True) q (gMsg p l (env0 id)) ∧ Below lo wr w' := by
  have hl : l.length = ls.length := by
    have := congrArg List.length h.dat
    simpa using this
  obtain ⟨A, c, rfl, hc, hC⟩ := Kd.R_reads h.row
  have := raw_app lo qo (pkOf p) l A c wr (hop.below h.bel) (Nat.le_trans hlo h.bel.size) ((top_pkOf p hp ht).le (by decide)) (by omega) (fun e he => ((h.ctl e he).bound).mono (fun k hk => hk.2)) hC
  refine (envelope_g 145 149 _ _ _ lo id wr hid (Raw_ta (.bool true) _ _) (fun U _ => Raw_m _ _ U) Raw_cf (Nat.le_trans hlo h.bel.size) this).mono ?_
  rintro e w' ⟨q, lo', he, hi, hb⟩
  exact ⟨q, lo', he, hi, hb⟩
set_option maxHeartbeats 3200000 in
set_option maxRecDepth 100000 in
theorem msg_closure (id : Int) (hid : -9223372036854775808 ≤ id ∧ id ≤ 9223372036854775807) (p : S27) (hp : good (mir p) = true) (ht : tsize (mir p) ≤ 1000000) (A3 : Option Addr) (c3 : Nat) (A4 : Option Addr) (c4 : Nat) (ls : List S79) (A : Option Addr) (c : Nat) (a0 a1 a2 g : Nat) (w0 W : World)
    (h3 : B8.C w0 A3 p.f3.length p.f3) (h4 : k27.C w0 A4 p.f4.length p.f4) (hls : k79.C w0 A ls.length ls) (hok : ∀ x, x ∈ ls → okCtl x) (hn : ls.length ≤ 5) (hb : Below w0.heap.size w0 W)
    (hop : W.heap[a0]? = some (.cells #[.int .i64 p.f0, .int .i64 p.f1, .bool p.f2, .slice A3 p.f3.length c3, .slice A4 p.f4.length c4] 27 (0, 0))) (hcl : W.heap[a1]? = some (.cells #[.slice A ls.length c] 73 (0, 0))) (hi : W.heap[a2]? = some (.cells #[.int .i64 id] 2 (0, 0))) (hg : W.heap[g]? = some (.cells #[.int .i64 0, .int .i64 0, .bool false, .slice none 0 0, .slice none 0 0] 27 (0, 0))) :
    Calls Tryd.prog 78 #[.pointer (some ⟨a0, 0, none⟩), .pointer (some ⟨a1, 0, none⟩), .pointer (some ⟨a2, 0, none⟩), .pointer (some ⟨g, 0, none⟩)] W fun e w' => e = .returned (.bool true) ∧
      (∃ A3 c3 A4 c4, w'.heap[g]? = some (.cells #[.int .i64 (msgD id p (ls.map dC)).f0, .int .i64 (msgD id p (ls.map dC)).f1, .bool (msgD id p (ls.map dC)).f2, .slice A3 (msgD id p (ls.map dC)).f3.length c3, .slice A4 (msgD id p (ls.map dC)).f4.length c4] 27 (0, 0)) ∧ B8.R 5 w' W.heap.size (fun _ => True) (.slice A3 (msgD id p (ls.map dC)).f3.length c3) (msgD id p (ls.map dC)).f3 ∧ k27.R 27 w' W.heap.size (fun _ => True) (.slice A4 (msgD id p (ls.map dC)).f4.length c4) (msgD id p (ls.map dC)).f4) ∧
      Only (fun k => k = g) W w' := by
  have HB := Lib.hid (built_any w0 1000000 (Nat.le_refl _) p A3 c3 A4 c4 W hp ht h3 h4 hb)
  have p0 : W.cell? ⟨a0, 0, none⟩ = some (.int .i64 p.f0) := blk_cell hop 0
  have p1 : W.cell? ⟨a0, 1, none⟩ = some (.int .i64 p.f1) := blk_cell hop 1
  have p2 : W.cell? ⟨a0, 2, none⟩ = some (.bool p.f2) := blk_cell hop 2
  have p3 : W.cell? ⟨a0, 3, none⟩ = some (.slice A3 p.f3.length c3) := blk_cell hop 3
  have p4 : W.cell? ⟨a0, 4, none⟩ = some (.slice A4 p.f4.length c4) := blk_cell hop 4
  have HCL := Lib.hid hcl
  have HI := Lib.hid hi
  have HG := Lib.hid hg
  have HLS := Lib.hid hls
  have HOK := Lib.hid hok
  have HB0 := Lib.hid hb
  have HMS : Hid (∀ (W1 wr : World) (qo : Nat) (v : Value) (l : List Ce), W.heap.size ≤ W1.heap.size → IsPk W1 W.heap.size (fun _ => True) qo (pkOf p) → MsgInv W1 qo ls wr v l ls.length → Calls Tryd.prog 81 #[.int .i64 id, .iface 145 (.agg #[.pointer (some ⟨qo, 0, none⟩), v])] wr fun e w' => ∃ q lo', e = .returned (.pointer (some ⟨q, 0, none⟩)) ∧ IsPk w' lo' (fun _ => True) q (gMsg p l (env0 id)) ∧ Below W.heap.size wr w') :=
    Lib.hid (fun W1 wr qo v l h1 h2 h3 => env_msg hid p hp ht W.heap.size h1 h2 h3 hn)
  have HPK : Hid (∀ (l : List Ce), (∀ e, e ∈ l → Fine e.2.2 3000000) → l.length ≤ 5 → okP (gMsg p l (env0 id))) := Lib.hid (fun l h1 h2 => (gMsg_fine id hid p hp ht l h1 h2).ok (by decide))
  have HTR : Hid (∀ (l : List Ce), (l.map fun e => trOf e.2.2) = ls.map dC → trOf (gMsg p l (env0 id)) = msgD id p (ls.map dC)) := Lib.hid (fun l h => gMsg_tr id p hp l _ h)
  obtain ⟨D, hD⟩ : ∃ D, D = msgD id p (ls.map dC) := ⟨_, rfl⟩
  rw [← hD] at HTR ⊢
  clear hop hcl hi hg hls hok hb h3 h4 hp ht hid hD
  go_enter Tryd.func78, Tryd.ntmps78
  go_wp2_with (go_at_call 79
               with_reducible refine HB.out.mono ?_
               rintro e W1 ⟨qo, rfl, hI, hB⟩
               have c1 : ∀ o, (W1.alloc o).cell? ⟨a1, 0, none⟩ = some (.slice A ls.length c) := fun o => blk_cell (blk_alloc (blk_below HCL.out hB) o) 0
               have HI1 := Lib.hid hI
               have HB1 := Lib.hid hB
               clear hI hB)
  obtain ⟨W2, hW2⟩ : ∃ W2, W2 = W1.alloc (.cells #[.pointer (some ⟨qo, 0, none⟩), .slice none 0 0] 145) := ⟨_, rfl⟩
  rw [← hW2]
  have HM2 : Hid (MsgInv W1 qo ls W2 (.slice none 0 0) [] 0) := Lib.hid (by
    rw [hW2]
    exact ⟨blk_new _ _, Kd.R_nil _ _ _ _ _, fun e he => (by cases he), (by simp), below_alloc (Below.refl _ _) _⟩)
  clear hW2 c1
  go_loopw [15] (fun i wr => ∃ k : Nat, i = .int .i64 k ∧ k ≤ ls.length ∧ Hid (∃ v l, MsgInv W1 qo ls wr v l k)) (fun i _ => ls.length - (intOf i).toNat)
  case atStart => exact ⟨0, rfl, Nat.zero_le _, Lib.hid ⟨_, _, HM2.out⟩⟩
  case round =>
    obtain ⟨k, rfl, hk, HV0⟩ := hrel
    obtain ⟨v, l, HV1⟩ := HV0.out
    have HV := Lib.hid HV1
    clear HV0 HV1
    have HBw : Hid (Below W.heap.size W wr) := Lib.hid (HB1.out.trans (HV.out.bel.mono HB1.out.size))
    by_cases hlt : k < ls.length
    · obtain ⟨ad, A3', c3', A5', c5', rfl, e0, e1, e2, e3, e4, e5, l3, g3, l5, g5⟩ := at_T79 HLS.out (k : Int) (by omega) (by omega)
      rw [Int.toNat_natCast] at e0 e1 e2 e3 e4 e5
      have hrd : rd_T79 ls (k : Int) = ls[k] := by rw [rd_T79, Int.toNat_natCast, List.getD_eq_getElem?_getD, List.getElem?_eq_getElem hlt]; rfl
      rw [hrd] at e0 e1 e2 e3 e4 e5 g3 g5
      have HX := Lib.hid (HOK.out _ (List.getElem_mem hlt))
      have HST : Hid ((ls.take (k + 1)).map dC = (ls.take k).map dC ++ [dC ls[k]]) := Lib.hid (by rw [List.take_succ_eq_append_getElem hlt, List.map_append]; rfl)
      obtain ⟨x, hx⟩ : ∃ x, x = ls[k] := ⟨_, rfl⟩
      rw [← hx] at e0 e1 e2 e3 e4 e5 g3 g5 HX HST
      have HB0w : Hid (Below w0.heap.size w0 wr) := Lib.hid (HB0.out.trans (HBw.out.mono HB0.out.size))
      replace e0 := (HB0w.out.cell (World.block_lt_of_cell? w0 _ e0)).trans e0
      replace e1 := (HB0w.out.cell (World.block_lt_of_cell? w0 _ e1)).trans e1
      replace e2 := (HB0w.out.cell (World.block_lt_of_cell? w0 _ e2)).trans e2
      replace e3 := (HB0w.out.cell (World.block_lt_of_cell? w0 _ e3)).trans e3
      replace e4 := (HB0w.out.cell (World.block_lt_of_cell? w0 _ e4)).trans e4
      replace e5 := (HB0w.out.cell (World.block_lt_of_cell? w0 _ e5)).trans e5
      have HG3 := Lib.hid (Kd.C_below g3 HB0w.out)
      have HG5 := Lib.hid (Kd.C_below g5 HB0w.out)
      clear hrd hx g3 g5 l3 l5
      go_wp2_with (first
        | (go_at_call 80
           obtain ⟨W5, hW5⟩ : ∃ W5, W5 = wr.alloc (.cells #[.int .i64 x.f0, .string x.f1, .bool x.f2, .slice A3' x.f3.length c3', .int .i64 x.f4, .slice A5' x.f5.length c5'] 79) := ⟨_, rfl⟩
           rw [← hW5]
           have hb5 : Below wr.heap.size wr W5 := by rw [hW5]; exact below_alloc (Below.refl _ _) _
           clear hW5
           refine (ctl_any x HX.out A3' c3' A5' c5' W5 (Kd.C_below HG3.out hb5) (Kd.C_below HG5.out hb5)).mono ?_
           rintro e W6 ⟨⟨t, rb, y⟩, rfl, hct, htr, hB⟩
           dsimp only [ceV] at htr ⊢
           have HV6 := Lib.hid ((HV.out.below hb5).below hB)
           have HCT : Hid (CtlAt (fun k => wr.heap.size ≤ k) W6 (t, rb, y)) := Lib.hid (hct.mono (fun k hk => Nat.le_trans hb5.size hk.1))
           have HTR := Lib.hid htr
           have HS6 : Hid (wr.heap.size ≤ W6.heap.size) := Lib.hid (Nat.le_trans hb5.size hB.size)
           have q1 : W6.cell? ⟨W1.heap.size, 1, none⟩ = some v := blk_cell HV6.out.hr 1
           have HCK : Hid (CtlAt (fun k => W1.heap.size < k ∧ some k ≠ v.ownBlock) W6 (t, rb, y)) := Lib.hid (HCT.out.mono (fun k hk => ⟨Nat.lt_of_lt_of_le HV.out.lt hk, fun he => by have := Kd.R_lt HV.out.row k he.symm; omega⟩))
           have HLE : Hid (l.length ≤ 5) := Lib.hid (by have := congrArg List.length HV.out.dat; simp at this; omega)
           clear hct htr hB hb5 HCT)
        | ((with_reducible refine gate_dst (N := 27) rfl ?_)
           refine Kd.R_append kCe (w0 := W6) (W := W6) (W1.heap.size + 1) rfl (.tmp 24) (.tmp 26) 106 147 .nilIface 16 rfl Tryd.underlying106 info_ctl rfl (by decide) (by decide) v l (t, rb, y) [ceV (t, rb, y)] (fun k => W1.heap.size < k) (fun _ => False) rfl rfl rfl (fun _ hk => hk.elim) (fun k hk => Nat.lt_of_lt_of_le HV6.out.lt hk) HV6.out.row (Below.refl _ _) HV6.out.lt (by have := HLE.out; omega) ?_
           intro v1 w1 hR hb hg hat
           have x0 : w1.cell? ⟨W1.heap.size, 1, none⟩ = some v := blk_cell (blk_grown HV6.out.hr hg HV6.out.ne) 1
           have xf : w1.frozen? ⟨W1.heap.size, 1, none⟩ = false := blk_frozen (blk_grown HV6.out.hr hg HV6.out.ne) 1
           obtain ⟨Aq, cq, hvq, _, _⟩ := Kd.R_reads hR
           subst hvq
           have HV7 := Lib.hid (HV6.out.app hR hb hg hat HCK.out HTR.out HST.out)
           clear hR hb hg hat))
      exact ⟨⟨k + 1, rfl, hlt, Lib.hid ⟨_, _, by
        have := HV7.out
        simp only [List.length_append, List.length_singleton] at this
        exact this⟩⟩, by
        show ls.length - ((k : Int) + 1).toNat < ls.length - ((k : Int)).toNat
        rw [show ((k : Int) + 1).toNat = k + 1 from rfl, Int.toNat_natCast]
        omega⟩
    · obtain rfl : k = ls.length := by omega
      have c6 : wr.cell? ⟨a2, 0, none⟩ = some (.int .i64 id) := blk_cell (blk_below HI.out HBw.out) 0
      obtain ⟨Av, cv, hv, _, _⟩ := Kd.R_reads HV.out.row
      subst hv
      have r0 : wr.cell? ⟨W1.heap.size, 0, none⟩ = some (.pointer (some ⟨qo, 0, none⟩)) := blk_cell HV.out.hr 0
      have r1 : wr.cell? ⟨W1.heap.size, 1, none⟩ = some (.slice Av l.length cv) := blk_cell HV.out.hr 1
      have hdat : (l.map fun e => trOf e.2.2) = ls.map dC := by have := HV.out.dat; rwa [List.take_length] at this
      have hlen : l.length ≤ 5 := by have := congrArg List.length hdat; simp at this; omega
      have HXT := Lib.hid (HTR.out l hdat)
      have HXO := Lib.hid (HPK.out l (fun e he => (HV.out.ctl e he).fine) hlen)
      have HME := Lib.hid (HMS.out W1 wr qo _ l HB1.out.size HI1.out HV.out)
      obtain ⟨X, hX⟩ : ∃ X, X = gMsg p l (env0 id) := ⟨_, rfl⟩
      rw [← hX] at HXT HXO HME
      clear hX hdat HTR HPK HMS hlen
      go_wp2_with (first
        | (go_at_call 81
           with_reducible refine HME.out.mono ?_
           rintro e V1 ⟨q, lo', rfl, hA, hB⟩
           have HU := Lib.hid (unpk_any (dp X) X (Nat.le_refl _) HXO.out q _ _ V1 hA)
           have HB2 := Lib.hid (HBw.out.trans hB)
           clear hA hB HME)
        | (go_at_call 82
           with_reducible refine HU.out.mono ?_
           rintro e V2 ⟨cx, rfl, hM, hB2⟩
           rw [HXT.out] at hM
           obtain ⟨v3, v4, rfl, r3, r4⟩ := k27_openM hM
           obtain ⟨B3, d3, h3⟩ := Kd.R_slice r3
           obtain ⟨B4, d4, h4⟩ := Kd.R_slice r4
           subst h3
           subst h4
           have HB3 := Lib.hid (HB2.out.trans (hB2.mono HB2.out.size))
           have HS1 := Lib.hid HB2.out.size
           have HP2 := Lib.hid (blk_below HG.out HB3.out)
           have k0 : V2.cell? ⟨g, 0, none⟩ = some (.int .i64 0) := blk_cell HP2.out 0
           have k1 : V2.cell? ⟨g, 1, none⟩ = some (.int .i64 0) := blk_cell HP2.out 1
           have k2 : V2.cell? ⟨g, 2, none⟩ = some (.bool false) := blk_cell HP2.out 2
           have k3 : V2.cell? ⟨g, 3, none⟩ = some (.slice none 0 0) := blk_cell HP2.out 3
           have k4 : V2.cell? ⟨g, 4, none⟩ = some (.slice none 0 0) := blk_cell HP2.out 4
           have kf0 := blk_frozen HP2.out 0
           have kf1 := blk_frozen HP2.out 1
           have kf2 := blk_frozen HP2.out 2
           have kf3 := blk_frozen HP2.out 3
           have kf4 := blk_frozen HP2.out 4
           have HR3 := Lib.hid r3
           have HR4 := Lib.hid r4
           clear r3 r4 hM hB2 HU))
      have hgw := Lib.hid (blk_lt HG.out)
      obtain ⟨h5, ho5⟩ := store5 (v0 := .int .i64 D.f0) (v1 := .int .i64 D.f1) (v2 := .bool D.f2) (v3 := .slice B3 D.f3.length d3) (v4 := .slice B4 D.f4.length d4) HP2.out rfl
      go_ret
      refine ⟨rfl, ⟨B3, d3, B4, d4, h5, ?_, ?_⟩, (Only.of_below _ HB3.out).trans ho5 (fun _ _ h => h)⟩
      · exact Kd.R_lower (Kd.R_mono (Kd.R_move (Kd.R_bound HR3.out) (fun k hk => ho5.block k hk.2.2.1 (by have := hk.2.1; have := HS1.out; have := hgw.out; show ¬ k = g; omega))) (fun _ _ => trivial)) HS1.out
      · exact Kd.R_lower (Kd.R_mono (Kd.R_move (Kd.R_bound HR4.out) (fun k hk => ho5.block k hk.2.2.1 (by have := hk.2.1; have := HS1.out; have := hgw.out; show ¬ k = g; omega))) (fun _ _ => trivial)) HS1.out
set_option maxHeartbeats 3200000 in
set_option maxRecDepth 100000 in
theorem message_any (id : Int) (hid : -9223372036854775808 ≤ id ∧ id ≤ 9223372036854775807) (p : S27) (hp : good (mir p) = true) (ht : tsize (mir p) ≤ 1000000) (A3 : Option Addr) (c3 : Nat) (A4 : Option Addr) (c4 : Nat) (ls : List S79) (A : Option Addr) (c : Nat) (w0 w : World)
    (h3 : B8.C w0 A3 p.f3.length p.f3) (h4 : k27.C w0 A4 p.f4.length p.f4) (hls : k79.C w0 A ls.length ls) (hok : ∀ x, x ∈ ls → okCtl x) (hn : ls.length ≤ 5) (hb : Below w0.heap.size w0 w) :
    Calls Tryd.prog 40 #[.int .i64 id, .agg #[.int .i64 p.f0, .int .i64 p.f1, .bool p.f2, .slice A3 p.f3.length c3, .slice A4 p.f4.length c4], .slice A ls.length c] w (OpRes w (msgD id p (ls.map dC))) := by
  have hmf : ∀ (fn : Fn) (first cap : Array Value) (w : World), (Instr.makeFunc fn first cap).run Tryd.prog w = .ok (.func fn first cap) w := fun _ _ _ _ => rfl
  obtain ⟨W0, hW0⟩ : ∃ W0, W0 = (((w.alloc (.cells #[.int .i64 id] 2)).alloc (.cells #[.int .i64 p.f0, .int .i64 p.f1, .bool p.f2, .slice A3 p.f3.length c3, .slice A4 p.f4.length c4] 27)).alloc (.cells #[.slice A ls.length c] 73)).alloc (.cells #[.int .i64 0, .int .i64 0, .bool false, .slice none 0 0, .slice none 0 0] 27) := ⟨_, rfl⟩
  have hs0 : W0.heap.size = w.heap.size + 4 := by rw [hW0]; simp
  have hb0 : Below w.heap.size w W0 := by rw [hW0]; exact below_alloc (below_alloc (below_alloc (below_alloc (Below.refl _ _) _) _) _) _
  have hr0 : W0.heap[w.heap.size]? = some (.cells #[.int .i64 id] 2 (0, 0)) := by rw [hW0]; exact blk_alloc (blk_alloc (blk_alloc (blk_new _ _) _) _) _
  have hr1 : W0.heap[w.heap.size + 1]? = some (.cells #[.int .i64 p.f0, .int .i64 p.f1, .bool p.f2, .slice A3 p.f3.length c3, .slice A4 p.f4.length c4] 27 (0, 0)) := by rw [hW0]; exact blk_alloc (blk_alloc (two_new _ _ _ _ _) _) _
  have hr2 : W0.heap[w.heap.size + 2]? = some (.cells #[.slice A ls.length c] 73 (0, 0)) := by
    rw [hW0]
    refine blk_alloc ?_ _
    have := two_new (w.alloc (.cells #[.int .i64 id] 2)) #[.int .i64 p.f0, .int .i64 p.f1, .bool p.f2, .slice A3 p.f3.length c3, .slice A4 p.f4.length c4] #[.slice A ls.length c] 27 73
    have e : (w.alloc (.cells #[.int .i64 id] 2)).heap.size = w.heap.size + 1 := by simp
    rwa [e] at this
  have hr3 : W0.heap[w.heap.size + 3]? = some (.cells #[.int .i64 0, .int .i64 0, .bool false, .slice none 0 0, .slice none 0 0] 27 (0, 0)) := by
    rw [hW0]
    have := two_new ((w.alloc (.cells #[.int .i64 id] 2)).alloc (.cells #[.int .i64 p.f0, .int .i64 p.f1, .bool p.f2, .slice A3 p.f3.length c3, .slice A4 p.f4.length c4] 27)) #[.slice A ls.length c] #[.int .i64 0, .int .i64 0, .bool false, .slice none 0 0, .slice none 0 0] 73 27
    have e : ((w.alloc (.cells #[.int .i64 id] 2)).alloc (.cells #[.int .i64 p.f0, .int .i64 p.f1, .bool p.f2, .slice A3 p.f3.length c3, .slice A4 p.f4.length c4] 27)).heap.size = w.heap.size + 2 := by simp
    rwa [e] at this
  obtain ⟨D, hD⟩ : ∃ D, D = msgD id p (ls.map dC) := ⟨_, rfl⟩
  rw [← hD]
  have HS := Lib.hid (safely_msg #[.pointer (some ⟨w.heap.size + 1, 0, none⟩), .pointer (some ⟨w.heap.size + 2, 0, none⟩), .pointer (some ⟨w.heap.size, 0, none⟩), .pointer (some ⟨w.heap.size + 3, 0, none⟩)] true
    (fun w' => (∃ A3 c3 A4 c4, w'.heap[w.heap.size + 3]? = some (.cells #[.int .i64 D.f0, .int .i64 D.f1, .bool D.f2, .slice A3 D.f3.length c3, .slice A4 D.f4.length c4] 27 (0, 0)) ∧ B8.R 5 w' (W0.heap.size + 1) (fun _ => True) (.slice A3 D.f3.length c3) D.f3 ∧ k27.R 27 w' (W0.heap.size + 1) (fun _ => True) (.slice A4 D.f4.length c4) D.f4) ∧ Below w.heap.size w w') W0
    (by
      intro W hW
      have hbW : Below w.heap.size w W := by rw [hW]; exact below_alloc hb0 _
      have hsW : W.heap.size = W0.heap.size + 1 := by rw [hW]; simp
      have hc := msg_closure id hid p hp ht A3 c3 A4 c4 ls A c (w.heap.size + 1) (w.heap.size + 2) w.heap.size (w.heap.size + 3) w0 W h3 h4 hls hok hn (hb.trans (hbW.mono hb.size)) (by rw [hW]; exact blk_alloc hr1 _) (by rw [hW]; exact blk_alloc hr2 _) (by rw [hW]; exact blk_alloc hr0 _) (by rw [hW]; exact blk_alloc hr3 _)
      rw [hsW, ← hD] at hc
      refine hc.mono ?_
      rintro e w' ⟨rfl, hq, ho⟩
      refine ⟨rfl, ⟨hq, hbW.trans (ho.below hbW.size (fun i hi => by omega))⟩, ?_⟩
      have hbl : W.heap[W0.heap.size]? = some (.cells #[.bool false] 4 (0, 0)) := by rw [hW]; exact blk_new _ _
      exact (ho.block _ (by omega) (by show ¬ _ = w.heap.size + 3; omega)).trans hbl))
  have HS0 := Lib.hid hs0
  have HW0 := Lib.hid hW0
  clear hid hp ht h3 h4 hls hok hn hb hb0 hr0 hr1 hr2 hr3 hs0 hW0 hD
  go_enter Tryd.func40, Tryd.ntmps40
  go_wp2_with (go_at_call 77
               rw [← HW0.out]
               with_reducible refine HS.out.mono ?_
               rintro e w' ⟨rfl, W1, ⟨⟨B3, d3, B4, d4, hg, r3, r4⟩, hb1⟩, rfl⟩
               have hne : w.heap.size + 3 ≠ W0.heap.size := by have := HS0.out; omega
               have hg2 := blk_far hg (p := ⟨W0.heap.size, 0, none⟩) hne (.bool true)
               have r32 := Kd.R_far (Kd.R_mono (ok' := fun k => k ≠ W0.heap.size) (Kd.R_bound r3) (fun k hk => by have := hk.2.1; omega)) (p := ⟨W0.heap.size, 0, none⟩) (fun k hk => hk) (.bool true)
               have r42 := Kd.R_far (Kd.R_mono (ok' := fun k => k ≠ W0.heap.size) (Kd.R_bound r4) (fun k hk => by have := hk.2.1; omega)) (p := ⟨W0.heap.size, 0, none⟩) (fun k hk => hk) (.bool true)
               have hb2 : Below w.heap.size w (W1.setCell ⟨W0.heap.size, 0, none⟩ (.bool true)) := hb1.setCell (p := ⟨W0.heap.size, 0, none⟩) (by have := HS0.out; show w.heap.size ≤ W0.heap.size; omega) _
               obtain ⟨W2, hW2⟩ : ∃ W2, W2 = W1.setCell ⟨W0.heap.size, 0, none⟩ (.bool true) := ⟨_, rfl⟩
               rw [← hW2] at hg2 r32 r42 hb2 ⊢
               have HG2 := Lib.hid hg2
               have HR3 := Lib.hid r32
               have HR4 := Lib.hid r42
               have HB2 := Lib.hid hb2
               have k0 : W2.cell? ⟨w.heap.size + 3, 0, none⟩ = some (.int .i64 D.f0) := blk_cell hg2 0
               have k1 : W2.cell? ⟨w.heap.size + 3, 1, none⟩ = some (.int .i64 D.f1) := blk_cell hg2 1
               have k2 : W2.cell? ⟨w.heap.size + 3, 2, none⟩ = some (.bool D.f2) := blk_cell hg2 2
               have k3 : W2.cell? ⟨w.heap.size + 3, 3, none⟩ = some (.slice B3 D.f3.length d3) := blk_cell hg2 3
               have k4 : W2.cell? ⟨w.heap.size + 3, 4, none⟩ = some (.slice B4 D.f4.length d4) := blk_cell hg2 4
               have kf0 := blk_frozen hg2 0
               have kf1 := blk_frozen hg2 1
               have kf2 := blk_frozen hg2 2
               have kf3 := blk_frozen hg2 3
               have kf4 := blk_frozen hg2 4
               clear hg r3 r4 hb1 hg2 r32 r42 hb2 hW2 HS)
  try simp only [Exit.inBlock, Exit.then]
  obtain ⟨h5, hend⟩ := op_end HB2.out (by omega) (show w.heap.size + 3 < W0.heap.size + 1 by have := HS0.out; omega) HG2.out HR3.out HR4.out rfl
  exact bodyPost_ret (results_ct (p := 6) (u := 7) rfl _ _ _ _ _ _ _ rfl h5 Tryd.underlying27 rfl size_ip) rfl hend

end Go.Proofs.YtbmcpjkhnhbjdaaDoor.Ber
namespace Go.Proofs.YtbmcpjkhnhbjdaaDoor.Ber
open Go.RowKit Go.Proofs.YtbmcpjkhnhbjdaaDoorW.PrintWords Go.Proofs.YtbmcpjkhnhbjdaaDoor.PFnEncode Go.Proofs.YtbmcpjkhnhbjdaaDoor.Tree Go.Proofs.YtbmcpjkhnhbjdaaDoor.Buf Go.Proofs.YtbmcpjkhnhbjdaaDoor.Pk Go.Proofs.YtbmcpjkhnhbjdaaDoor.Within Go.Proofs.YtbmcpjkhnhbjdaaDoor.Num Go.Proofs.YtbmcpjkhnhbjdaaDoor.Ident
set_option linter.unusedVariables false
set_option linter.unusedSimpArgs false

theorem bytesOf_strOf (xs : List Int) (h : ∀ x ∈ xs, 0 ≤ x ∧ x < 256) : bytesOf (strOfNums xs) = xs := by
  have e : bytesOf (strOfNums xs) = xs.map (fun x => ((UInt8.ofNat x.toNat).toNat : Int)) := by
    simp [bytesOf, strOfNums]
  rw [e]
  conv => rhs; rw [← List.map_id xs]
  refine List.map_congr_left (fun x hx => ?_)
  have := h x hx
  rw [UInt8.toNat_ofNat']
  show ((x.toNat % 256 : Nat) : Int) = x
  omega
theorem bytesOf_range (s : ByteArray) : ∀ x ∈ bytesOf s, 0 ≤ x ∧ x < 256 := by
  intro x hx
  unfold bytesOf at hx
  obtain ⟨b, _, rfl⟩ := List.mem_map.1 hx
  have := UInt8.toNat_lt b
  omega
theorem lenBytes_range (n : Nat) (h : n < 256 ^ 7) : ∀ x ∈ lenBytes n, 0 ≤ x ∧ x < 256 := by
  intro x hx
  unfold lenBytes at hx
  split at hx
  · obtain rfl : x = n := by simpa using hx
    omega
  · rcases List.mem_cons.1 hx with rfl | hx
    · have := nd_le 6 n h
      omega
    · exact be_range _ _ x hx
theorem pk_range (cls tag : Int) (c : Bool) (d : List Int) (hi : ∀ x ∈ identT cls tag c, 0 ≤ x ∧ x < 256) (hd : ∀ x ∈ d, 0 ≤ x ∧ x < 256) (hl : d.length < 256 ^ 7) : ∀ x ∈ pkBytes cls tag c d, 0 ≤ x ∧ x < 256 := by
  intro x hx
  simp only [pkBytes, List.mem_append] at hx
  rcases hx with (hx | hx) | hx
  · exact hi x hx
  · exact lenBytes_range _ hl x hx
  · exact hd x hx
theorem bytesT_tL (l : List S33) : bytesT (tL l) = pkBytes 0 16 true (bytesL l) := by
  simp [tL, bytesT, pkBytes]
theorem whole_range (n : Int) : ∀ x ∈ whole n, 0 ≤ x ∧ x < 256 := fun x hx => be_range _ _ x hx
theorem pag_bytes (n : Int) (hn : -9223372036854775808 ≤ n ∧ n ≤ 9223372036854775807) (ck : ByteArray) (hck : ck.size ≤ 200) : bytesOf (pagV n ck) = pkBytes 0 16 true (pkBytes 0 2 false (whole n) ++ pkBytes 0 4 false (bytesOf ck)) := by
  have e : bytesT (pagT n ck) = pkBytes 0 16 true (pkBytes 0 2 false (whole n) ++ pkBytes 0 4 false (bytesOf ck)) := by
    rw [pagT, bytesT_tL]
    simp [bytesL, bytesT, tO, pkBytes]
  have i0 : identT 0 16 true = [48] := by decide
  have i1 : identT 0 2 false = [2] := by decide
  have i2 : identT 0 4 false = [4] := by decide
  have hw : (whole n).length ≤ 8 := whole_len n hn
  have hl := bytesOf_length ck
  have l1 := lenBytes_le (whole n).length (by omega)
  have l2 := lenBytes_le (bytesOf ck).length (by omega)
  have r1 := pk_range 0 2 false (whole n) (by rw [i1]; decide) (whole_range n) (by omega)
  have r2 := pk_range 0 4 false (bytesOf ck) (by rw [i2]; decide) (bytesOf_range ck) (by omega)
  have hlen : (pkBytes 0 2 false (whole n) ++ pkBytes 0 4 false (bytesOf ck)).length ≤ 1000 := by
    simp only [pkBytes, List.length_append, i1, i2, List.length_singleton]
    omega
  rw [pagV, e]
  refine bytesOf_strOf _ (pk_range 0 16 true _ (by rw [i0]; decide) (fun x hx => ?_) (by omega))
  rcases List.mem_append.1 hx with h | h
  · exact r1 x h
  · exact r2 x h

/-- the reference's controls -/
def sCtl (o : ByteArray) (b : Bool) (l : List ByteArray) : S33 := tL ([tO o] ++ (if b then [⟨0, 1, false, [255], []⟩] else []) ++ l.map tO)
theorem alk_ctl (o s : ByteArray) (b : Bool) : alk (mir (ctlD o b s)) (sCtl o b (if s.toList.isEmpty then [] else [s])) := by
  cases b <;> cases h : s.toList.isEmpty <;> simp [ctlD, sCtl, tL, tO, mir, mirL, alk, alkL, h]
theorem alk_man (b : Bool) : alk (mir (manD b)) (sCtl ⟨#[50, 46, 49, 54, 46, 56, 52, 48, 46, 49, 46, 49, 49, 51, 55, 51, 48, 46, 51, 46, 52, 46, 50]⟩ b []) := by
  cases b <;> simp [manD, sCtl, tL, tO, mir, mirL, alk, alkL]
theorem alk_pag (n : Int) (hn : -9223372036854775808 ≤ n ∧ n ≤ 9223372036854775807) (ck : ByteArray) (hck : ck.size ≤ 200) : alk (mir (pagD n (bytesOf ck))) (sCtl ⟨#[49, 46, 50, 46, 56, 52, 48, 46, 49, 49, 51, 53, 53, 54, 46, 49, 46, 52, 46, 51, 49, 57]⟩ false [pagV n ck]) := by
  have h := pag_bytes n hn ck hck
  simp [pagD, sCtl, tL, tO, mir, mirL, alk, alkL, h]
theorem byteList_eq (s : ByteArray) : s.toList = s.data.toList := by first | exact ByteArray.toList_eq s | rw [ByteArray.toList_eq] | simp
theorem strOf_empty (l : List Int) : (strOfNums l).toList.isEmpty = l.isEmpty := by
  have h : (strOfNums l).size = l.length := by simp [strOfNums, ByteArray.size]
  have h2 : (strOfNums l).toList.length = (strOfNums l).size := by
    rw [byteList_eq, Array.length_toList]
    rfl
  cases l with
  | nil =>
    have : (strOfNums ([] : List Int)).toList = [] := List.eq_nil_of_length_eq_zero (by rw [h2, h]; rfl)
    rw [this]
    rfl
  | cons x xs =>
    cases e : (strOfNums (x :: xs)).toList with
    | nil => rw [e, h] at h2; simp at h2
    | cons _ _ => rfl
/-- the reference's control of the package's -/
def dS (c : S79) : S33 := if c.f0 = 0 then sCtl c.f1 c.f2 (if c.f3.isEmpty then [] else [strOfNums c.f3]) else if c.f0 = 1 then sCtl ⟨#[49, 46, 50, 46, 56, 52, 48, 46, 49, 49, 51, 53, 53, 54, 46, 49, 46, 52, 46, 51, 49, 57]⟩ false [pagV c.f4 (strOfNums c.f5)] else sCtl ⟨#[50, 46, 49, 54, 46, 56, 52, 48, 46, 49, 46, 49, 49, 51, 55, 51, 48, 46, 51, 46, 52, 46, 50]⟩ c.f2 []
theorem alk_dC (c : S79) (h : okCtl c) (hr : ∀ x ∈ c.f5, 0 ≤ x ∧ x < 256) : alk (mir (dC c)) (dS c) := by
  obtain ⟨k, o, b, v, n, ck⟩ := c
  simp only [okCtl] at h
  simp only at hr
  rcases h with ⟨rfl, h1, h2⟩ | ⟨rfl, h1, h2, h3⟩ | rfl
  · have := alk_ctl o (strOfNums v) b
    rw [strOf_empty] at this
    exact this
  · have := alk_pag n ⟨by omega, by omega⟩ (strOfNums ck) (by rw [show (strOfNums ck).size = ck.length by simp [strOfNums, ByteArray.size]]; exact h3)
    rw [bytesOf_strOf ck hr] at this
    exact this
  · exact alk_man b
theorem alkL_dC : ∀ (l : List S79), (∀ c, c ∈ l → okCtl c) → (∀ c, c ∈ l → ∀ x ∈ c.f5, 0 ≤ x ∧ x < 256) → alkL (mirL (l.map dC)) (l.map dS)
  | [], _, _ => by simp [mirL, alkL]
  | c :: cs, h, hr => by
    rw [List.map_cons, List.map_cons, mirL, alkL]
    exact ⟨alk_dC c (h c (by simp)) (hr c (by simp)), alkL_dC cs (fun x hx => h x (by simp [hx])) (fun x hx => hr x (by simp [hx]))⟩
/-- the reference's message -/
def msgT (id : Int) (x : S33) (ss : List S33) : S33 := tL ([⟨0, 2, false, whole id, []⟩, x] ++ (if ss.isEmpty then [] else [⟨2, 0, true, [], ss⟩]))
theorem alk_msg (id : Int) (p : S27) (ds : List S27) (ss : List S33) (h : alkL (mirL ds) ss) : alk (mir (msgD id p ds)) (msgT id (mir p) ss) := by
  have hr := alk_refl (mir p)
  have hl := alkL_len h
  rw [mirL_eq, List.length_map] at hl
  cases ds with
  | nil =>
    cases ss with
    | nil => simp [msgD, msgT, tL, mir, mirL, alk, alkL, hr]
    | cons _ _ => simp at hl
  | cons d ds =>
    cases ss with
    | nil => simp at hl
    | cons s ss =>
      simp only [msgD, msgT, tL, mir, mirL, List.cons_append, List.nil_append, List.isEmpty_cons, Bool.false_eq_true, if_false, alk, alkL] at h ⊢
      simp [hr, h.1, h.2]
theorem dC_size (c : S79) (h : okCtl c) : tsize (mir (dC c)) ≤ 1000 ∧ tdp (mir (dC c)) ≤ 2 := by
  obtain ⟨k, o, b, v, n, ck⟩ := c
  simp only [okCtl] at h
  rcases h with ⟨rfl, h1, h2⟩ | ⟨rfl, h1, h2, h3⟩ | rfl
  · have e : dC ⟨0, o, b, v, n, ck⟩ = ctlD o b (strOfNums v) := rfl
    have hs : (strOfNums v).size = v.length := by simp [strOfNums, ByteArray.size]
    have l1 := bytesOf_length o
    have l2 := bytesOf_length (strOfNums v)
    rw [e]
    cases b <;> cases hv : (strOfNums v).toList.isEmpty <;> simp [ctlD, mir, mirL, tsize, tsizeL, tdp, tdpL, hv] <;> omega
  · have e : dC ⟨1, o, b, v, n, ck⟩ = pagD n ck := rfl
    have hn : -9223372036854775808 ≤ n ∧ n ≤ 9223372036854775807 := ⟨by omega, by omega⟩
    have i0 : identT 0 16 true = [48] := by decide
    have i1 : identT 0 2 false = [2] := by decide
    have i2 : identT 0 4 false = [4] := by decide
    have hw : (whole n).length ≤ 8 := whole_len n hn
    have l1 := lenBytes_le (whole n).length (by omega)
    have l2 := lenBytes_le ck.length (by omega)
    have hlen : (pkBytes 0 2 false (whole n) ++ pkBytes 0 4 false ck).length ≤ 400 := by
      simp only [pkBytes, List.length_append, i1, i2, List.length_singleton]
      omega
    have l3 := lenBytes_le (pkBytes 0 2 false (whole n) ++ pkBytes 0 4 false ck).length (by omega)
    have hl2 : (pkBytes 0 16 true (pkBytes 0 2 false (whole n) ++ pkBytes 0 4 false ck)).length ≤ 420 := by
      generalize pkBytes 0 2 false (whole n) ++ pkBytes 0 4 false ck = z at hlen l3 ⊢
      simp only [pkBytes, List.length_append, i0, List.length_singleton]
      omega
    have l4 := bytesOf_length ⟨#[49, 46, 50, 46, 56, 52, 48, 46, 49, 49, 51, 53, 53, 54, 46, 49, 46, 52, 46, 51, 49, 57]⟩
    have l5 : ByteArray.size ⟨#[49, 46, 50, 46, 56, 52, 48, 46, 49, 49, 51, 53, 53, 54, 46, 49, 46, 52, 46, 51, 49, 57]⟩ = 22 := rfl
    rw [e]
    generalize hz : pkBytes 0 16 true (pkBytes 0 2 false (whole n) ++ pkBytes 0 4 false ck) = z at hl2
    simp only [pagD, mir, mirL, tsize, tsizeL, tdp, tdpL, hz, List.length_nil]
    omega
  · have e : dC ⟨2, o, b, v, n, ck⟩ = manD b := rfl
    have l4 := bytesOf_length ⟨#[50, 46, 49, 54, 46, 56, 52, 48, 46, 49, 46, 49, 49, 51, 55, 51, 48, 46, 51, 46, 52, 46, 50]⟩
    have l5 : ByteArray.size ⟨#[50, 46, 49, 54, 46, 56, 52, 48, 46, 49, 46, 49, 49, 51, 55, 51, 48, 46, 51, 46, 52, 46, 50]⟩ = 23 := rfl
    rw [e]
    cases b <;> simp [manD, mir, mirL, tsize, tsizeL, tdp, tdpL] <;> omega
end Go.Proofs.YtbmcpjkhnhbjdaaDoor.Ber
