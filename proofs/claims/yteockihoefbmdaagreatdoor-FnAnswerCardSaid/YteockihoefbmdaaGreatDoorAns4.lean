/- Parts of the proof of one law, in the order in which they build. Lengths as bytes: what encodeLength makes, in plain Lean; the contracts of encodeLength and works. -/
import Derived.Test.YteockihoefbmdaaGreatDoorProg
import Derived.Below
import Derived.Deep.Draws
import Derived.Deep.AppendLies
import Derived.Maps.AppendAt
import Derived.OwnWalk
import Derived.Laws.BytesArg
import Derived.Laws.MakeOwn
import Derived.Laws.OwnMore
import Derived.Deep.OwnRows
import Derived.Tactics
import Derived.Lib.ConvBytes
import Derived.Laws.Slices
import Derived.WalkKit
import Derived.KernelRfl
import Derived.RowKit3
import Derived.Deep.LoopGhost
import Derived.Deep.QuietTactic
import Derived.BigQuiet
import Derived.WideLaws
import Derived.Deep.DeepCutAuto
import Derived.Deep.CutBlock
import Derived.Deep.RegionHeld3
import Derived.Laws.Rows
import Derived.Lib.AppendStr
import Derived.ArgAppend
import Derived.Laws.IdiomCopy
import Derived.OrdersHeld
import Derived.Laws.BitsLemmas
import Derived.RowKit
import Derived.Test.YteockihoefbmdaaGreatDoorAns2
import Derived.Test.YteockihoefbmdaaGreatDoorAns3
/-! ### 58. A guarded operation whose guard is known to want it: the same goal without the guard -/
namespace Go.Proofs.YteockihoefbmdaaGreatDoorW.PrintWords
open Go.RowKit
section
variable {P : Program} {ops : Array Oper} {rest : List Oper} {o : Oper} {a : Act} {Q : Exit → Act → World → Prop} {W : World}
/-- The gate takes the guard off (hw: 'by rfl', 'by kernel_rfl': the guard's slot holds what is wanted). -/
theorem gate_guard (hw : Region.wanted o (yielded ops a.tmps) = true) (h : wpList P ops Q ({ o with guard := none } :: rest) a W) : wpList P ops Q (o :: rest) a W := by
  have h1 : Region.wanted { o with guard := none } (yielded ops a.tmps) = true := rfl
  unfold wpList at h ⊢
  rw [if_pos h1] at h
  rw [if_pos hw]
  exact h
end
end Go.Proofs.YteockihoefbmdaaGreatDoorW.PrintWords
namespace Go.Proofs.YteockihoefbmdaaGreatDoor.PFnEncode
open Go.RowKit Go.Proofs.YteockihoefbmdaaGreatDoorW.PrintWords Go.Proofs.YteockihoefbmdaaGreatDoorW.PrintLast Go.Proofs.YteockihoefbmdaaGreatDoorW.PrintMore
attribute [local go_sem] max2_int min2_int max_two min_two max_three min_three max_four min_four   -- for this text's walks alone
set_option linter.unusedVariables false
set_option linter.unusedSimpArgs false

theorem info5 : (Tryz.prog.info? 5).map (fun i => (i.zero, i.size, i.bytes)) = some (some (.int .u8 0), 1, 1) := by kernel_rfl
-- the values' own types
/-! #### struct type 34, nested in itself -/
structure S34 where
  f0 : Int
  f1 : Int
  f2 : Bool
  f3 : (List Int)
  f4 : (List S34)
def z34 : S34 := ⟨(0 : Int), (0 : Int), false, ([] : List Int), ([] : List S34)⟩
def F34 (d : Kd S34) : Kd S34 := Kd.iso (Kd.pair (Kd.int .i64) (Kd.pair (Kd.int .i64) (Kd.pair Kd.bool (Kd.pair (Kd.slice 5 (Kd.int .u8)) (Kd.slice 34 d))))) (fun x : S34 => (x.f0, x.f1, x.f2, x.f3, x.f4))
theorem mono34 : Kd.Mono F34 := Kd.mono_iso _ (Kd.mono_pair (Kd.mono_const _) (Kd.mono_pair (Kd.mono_const _) (Kd.mono_pair (Kd.mono_const _) (Kd.mono_pair (Kd.mono_const _) (Kd.mono_slice 34 Kd.mono_id)))))
theorem sub34 : Kd.Sub F34 [5, 34] := Kd.sub_iso _ (Kd.sub_pair (Kd.sub_const _ (by decide)) (Kd.sub_pair (Kd.sub_const _ (by decide)) (Kd.sub_pair (Kd.sub_const _ (by decide)) (Kd.sub_pair (Kd.sub_const _ (by decide)) (Kd.sub_slice 34 (by decide) Kd.sub_id)))))
theorem sz34 : ∀ n, (Kd.upto F34 5 [5, 34] n).sz = 5 := Kd.upto_sz (fun _ => rfl)
def k34 : Kd S34 := Kd.fix F34 5 [5, 34] sz34 (Kd.upto_E sub34)
theorem k34_heap : Kd.Heap k34 := Kd.heap_fix (fun _ h_ => Kd.heap_iso _ (Kd.heap_pair (Kd.heap_int .i64) (Kd.heap_pair (Kd.heap_int .i64) (Kd.heap_pair Kd.heap_bool (Kd.heap_pair (Kd.heap_slice 5 (Kd.heap_int .u8)) (Kd.heap_slice 34 h_))))))
theorem k34_open {w : World} {x : S34} {cs : List Value} (h : k34.K w x cs) : ∃ A3 c3 A4 c4, cs = [.int .i64 x.f0, .int .i64 x.f1, .bool x.f2, .slice A3 x.f3.length c3, .slice A4 x.f4.length c4] ∧ x.f3.length ≤ c3 ∧ (Kd.int .u8).C w A3 x.f3.length x.f3 ∧ x.f4.length ≤ c4 ∧ k34.C w A4 x.f4.length x.f4 := by
  obtain ⟨n, h⟩ := h
  cases n with
  | zero => exact h.elim
  | succ n =>
    obtain ⟨_, _, rfl, rfl, ⟨_, _, rfl, rfl, ⟨_, _, rfl, rfl, ⟨_, _, rfl, ⟨A3, c3, rfl, l3, g3⟩, ⟨A4, c4, rfl, l4, g4⟩⟩⟩⟩⟩ := h
    exact ⟨A3, c3, A4, c4, rfl, l3, g3, l4, Kd.fix_C g4⟩
theorem k34_mk (w : World) (x : S34) {A3 : Option Addr} {c3 : Nat} (l3 : x.f3.length ≤ c3) (g3 : (Kd.int .u8).C w A3 x.f3.length x.f3) {A4 : Option Addr} {c4 : Nat} (l4 : x.f4.length ≤ c4) (g4 : k34.C w A4 x.f4.length x.f4) : k34.K w x [.int .i64 x.f0, .int .i64 x.f1, .bool x.f2, .slice A3 x.f3.length c3, .slice A4 x.f4.length c4] := by
  obtain ⟨n4, q4⟩ := Kd.fix_C_back mono34 g4
  have r4 := Kd.upto_C_le mono34 sz34 (show n4 ≤ n4 by omega) q4
  exact ⟨n4 + 1, ⟨[.int .i64 x.f0], [.int .i64 x.f1, .bool x.f2, .slice A3 x.f3.length c3, .slice A4 x.f4.length c4], rfl, rfl, ⟨[.int .i64 x.f1], [.bool x.f2, .slice A3 x.f3.length c3, .slice A4 x.f4.length c4], rfl, rfl, ⟨[.bool x.f2], [.slice A3 x.f3.length c3, .slice A4 x.f4.length c4], rfl, rfl, ⟨[.slice A3 x.f3.length c3], [.slice A4 x.f4.length c4], rfl, ⟨A3, c3, rfl, l3, g3⟩, ⟨A4, c4, rfl, l4, r4⟩⟩⟩⟩⟩⟩
theorem k34_mkF (W : World) (ok : Nat → Prop) (x : S34) {A3 : Option Addr} {c3 : Nat} (l3 : x.f3.length ≤ c3) (g3 : Kd.F (Kd.int .u8) W ok A3 x.f3.length x.f3) {A4 : Option Addr} {c4 : Nat} (l4 : x.f4.length ≤ c4) (g4 : Kd.F k34 W ok A4 x.f4.length x.f4) : Kd.FK k34 W ok x [.int .i64 x.f0, .int .i64 x.f1, .bool x.f2, .slice A3 x.f3.length c3, .slice A4 x.f4.length c4] := fun W2 hW => k34_mk W2 x l3 (g3 W2 hW) l4 (g4 W2 hW)
def rd_T34 (xs : List S34) (i : Int) : S34 := xs.getD i.toNat z34
theorem at_T34 {w : World} {A : Option Addr} {n : Nat} {xs : List S34} (h : Kd.C k34 w A n xs) (i : Int) (h0 : 0 ≤ i) (h1 : i < n) : ∃ ad A3 c3 A4 c4, A = some ad ∧ w.cell? (ad.add (i.toNat * 5)) = some (.int .i64 (rd_T34 xs i).f0) ∧ w.cell? ⟨(ad.add (i.toNat * 5)).block, (ad.add (i.toNat * 5)).off + 1, none⟩ = some (.int .i64 (rd_T34 xs i).f1) ∧ w.cell? ⟨(ad.add (i.toNat * 5)).block, (ad.add (i.toNat * 5)).off + 2, none⟩ = some (.bool (rd_T34 xs i).f2) ∧ w.cell? ⟨(ad.add (i.toNat * 5)).block, (ad.add (i.toNat * 5)).off + 3, none⟩ = some (.slice A3 (rd_T34 xs i).f3.length c3) ∧ w.cell? ⟨(ad.add (i.toNat * 5)).block, (ad.add (i.toNat * 5)).off + 4, none⟩ = some (.slice A4 (rd_T34 xs i).f4.length c4) ∧ (rd_T34 xs i).f3.length ≤ c3 ∧ (Kd.int .u8).C w A3 (rd_T34 xs i).f3.length (rd_T34 xs i).f3 ∧ (rd_T34 xs i).f4.length ≤ c4 ∧ k34.C w A4 (rd_T34 xs i).f4.length (rd_T34 xs i).f4 := by
  obtain ⟨ad, c, e, _, hK, hc0⟩ := Kd.C_get h z34 i h0 h1
  have hc : ∀ j u, c[j]? = some u → w.cell? (ad.add (i.toNat * 5 + j)) = some u := hc0
  obtain ⟨A3, c3, A4, c4, rfl, l3, g3, l4, g4⟩ := k34_open hK
  exact ⟨ad, A3, c3, A4, c4, e, hc 0 _ rfl, by rw [← add_field _ _ 1 (by omega)]; exact hc 1 _ rfl, by rw [← add_field _ _ 2 (by omega)]; exact hc 2 _ rfl, by rw [← add_field _ _ 3 (by omega)]; exact hc 3 _ rfl, by rw [← add_field _ _ 4 (by omega)]; exact hc 4 _ rfl, l3, g3, l4, g4⟩

/-! #### struct type 30, nested in itself -/
structure S30 where
  f0 : Int
  f1 : Int
  f2 : Bool
  f3 : (List Int)
  f4 : (List S30)
def z30 : S30 := ⟨(0 : Int), (0 : Int), false, ([] : List Int), ([] : List S30)⟩
def F30 (d : Kd S30) : Kd S30 := Kd.iso (Kd.pair (Kd.int .i64) (Kd.pair (Kd.int .i64) (Kd.pair Kd.bool (Kd.pair (Kd.slice 5 (Kd.int .u8)) (Kd.slice 30 d))))) (fun x : S30 => (x.f0, x.f1, x.f2, x.f3, x.f4))
theorem mono30 : Kd.Mono F30 := Kd.mono_iso _ (Kd.mono_pair (Kd.mono_const _) (Kd.mono_pair (Kd.mono_const _) (Kd.mono_pair (Kd.mono_const _) (Kd.mono_pair (Kd.mono_const _) (Kd.mono_slice 30 Kd.mono_id)))))
theorem sub30 : Kd.Sub F30 [5, 30] := Kd.sub_iso _ (Kd.sub_pair (Kd.sub_const _ (by decide)) (Kd.sub_pair (Kd.sub_const _ (by decide)) (Kd.sub_pair (Kd.sub_const _ (by decide)) (Kd.sub_pair (Kd.sub_const _ (by decide)) (Kd.sub_slice 30 (by decide) Kd.sub_id)))))
theorem sz30 : ∀ n, (Kd.upto F30 5 [5, 30] n).sz = 5 := Kd.upto_sz (fun _ => rfl)
def k30 : Kd S30 := Kd.fix F30 5 [5, 30] sz30 (Kd.upto_E sub30)
theorem k30_open {w : World} {x : S30} {cs : List Value} (h : k30.K w x cs) : ∃ A3 c3 A4 c4, cs = [.int .i64 x.f0, .int .i64 x.f1, .bool x.f2, .slice A3 x.f3.length c3, .slice A4 x.f4.length c4] ∧ x.f3.length ≤ c3 ∧ (Kd.int .u8).C w A3 x.f3.length x.f3 ∧ x.f4.length ≤ c4 ∧ k30.C w A4 x.f4.length x.f4 := by
  obtain ⟨n, h⟩ := h
  cases n with
  | zero => exact h.elim
  | succ n =>
    obtain ⟨_, _, rfl, rfl, ⟨_, _, rfl, rfl, ⟨_, _, rfl, rfl, ⟨_, _, rfl, ⟨A3, c3, rfl, l3, g3⟩, ⟨A4, c4, rfl, l4, g4⟩⟩⟩⟩⟩ := h
    exact ⟨A3, c3, A4, c4, rfl, l3, g3, l4, Kd.fix_C g4⟩
theorem k30_mk (w : World) (x : S30) {A3 : Option Addr} {c3 : Nat} (l3 : x.f3.length ≤ c3) (g3 : (Kd.int .u8).C w A3 x.f3.length x.f3) {A4 : Option Addr} {c4 : Nat} (l4 : x.f4.length ≤ c4) (g4 : k30.C w A4 x.f4.length x.f4) : k30.K w x [.int .i64 x.f0, .int .i64 x.f1, .bool x.f2, .slice A3 x.f3.length c3, .slice A4 x.f4.length c4] := by
  obtain ⟨n4, q4⟩ := Kd.fix_C_back mono30 g4
  have r4 := Kd.upto_C_le mono30 sz30 (show n4 ≤ n4 by omega) q4
  exact ⟨n4 + 1, ⟨[.int .i64 x.f0], [.int .i64 x.f1, .bool x.f2, .slice A3 x.f3.length c3, .slice A4 x.f4.length c4], rfl, rfl, ⟨[.int .i64 x.f1], [.bool x.f2, .slice A3 x.f3.length c3, .slice A4 x.f4.length c4], rfl, rfl, ⟨[.bool x.f2], [.slice A3 x.f3.length c3, .slice A4 x.f4.length c4], rfl, rfl, ⟨[.slice A3 x.f3.length c3], [.slice A4 x.f4.length c4], rfl, ⟨A3, c3, rfl, l3, g3⟩, ⟨A4, c4, rfl, l4, r4⟩⟩⟩⟩⟩⟩
theorem k30_mkF (W : World) (ok : Nat → Prop) (x : S30) {A3 : Option Addr} {c3 : Nat} (l3 : x.f3.length ≤ c3) (g3 : Kd.F (Kd.int .u8) W ok A3 x.f3.length x.f3) {A4 : Option Addr} {c4 : Nat} (l4 : x.f4.length ≤ c4) (g4 : Kd.F k30 W ok A4 x.f4.length x.f4) : Kd.FK k30 W ok x [.int .i64 x.f0, .int .i64 x.f1, .bool x.f2, .slice A3 x.f3.length c3, .slice A4 x.f4.length c4] := fun W2 hW => k30_mk W2 x l3 (g3 W2 hW) l4 (g4 W2 hW)
def rd_T30 (xs : List S30) (i : Int) : S30 := xs.getD i.toNat z30
theorem at_T30 {w : World} {A : Option Addr} {n : Nat} {xs : List S30} (h : Kd.C k30 w A n xs) (i : Int) (h0 : 0 ≤ i) (h1 : i < n) : ∃ ad A3 c3 A4 c4, A = some ad ∧ w.cell? (ad.add (i.toNat * 5)) = some (.int .i64 (rd_T30 xs i).f0) ∧ w.cell? ⟨(ad.add (i.toNat * 5)).block, (ad.add (i.toNat * 5)).off + 1, none⟩ = some (.int .i64 (rd_T30 xs i).f1) ∧ w.cell? ⟨(ad.add (i.toNat * 5)).block, (ad.add (i.toNat * 5)).off + 2, none⟩ = some (.bool (rd_T30 xs i).f2) ∧ w.cell? ⟨(ad.add (i.toNat * 5)).block, (ad.add (i.toNat * 5)).off + 3, none⟩ = some (.slice A3 (rd_T30 xs i).f3.length c3) ∧ w.cell? ⟨(ad.add (i.toNat * 5)).block, (ad.add (i.toNat * 5)).off + 4, none⟩ = some (.slice A4 (rd_T30 xs i).f4.length c4) ∧ (rd_T30 xs i).f3.length ≤ c3 ∧ (Kd.int .u8).C w A3 (rd_T30 xs i).f3.length (rd_T30 xs i).f3 ∧ (rd_T30 xs i).f4.length ≤ c4 ∧ k30.C w A4 (rd_T30 xs i).f4.length (rd_T30 xs i).f4 := by
  obtain ⟨ad, c, e, _, hK, hc0⟩ := Kd.C_get h z30 i h0 h1
  have hc : ∀ j u, c[j]? = some u → w.cell? (ad.add (i.toNat * 5 + j)) = some u := hc0
  obtain ⟨A3, c3, A4, c4, rfl, l3, g3, l4, g4⟩ := k30_open hK
  exact ⟨ad, A3, c3, A4, c4, e, hc 0 _ rfl, by rw [← add_field _ _ 1 (by omega)]; exact hc 1 _ rfl, by rw [← add_field _ _ 2 (by omega)]; exact hc 2 _ rfl, by rw [← add_field _ _ 3 (by omega)]; exact hc 3 _ rfl, by rw [← add_field _ _ 4 (by omega)]; exact hc 4 _ rfl, l3, g3, l4, g4⟩

/-! #### struct type 58 -/
/-! #### struct type 60 -/
end Go.Proofs.YteockihoefbmdaaGreatDoor.PFnEncode
namespace Go.Proofs.YteockihoefbmdaaGreatDoor.PFnEncode
open Go.RowKit Go.Proofs.YteockihoefbmdaaGreatDoorW.PrintWords Go.Proofs.YteockihoefbmdaaGreatDoorW.PrintLast Go.Proofs.YteockihoefbmdaaGreatDoorW.PrintMore
attribute [local go_sem] max2_int min2_int max_two min_two max_three min_three max_four min_four   -- for this text's walks alone
set_option linter.unusedVariables false
set_option linter.unusedSimpArgs false

/-! ### laws_short: function 7 -/
def laws_short.l0 : Nat → List ByteArray → List ByteArray → Int → Int → Option (Bool)
  | 0, _, _, _, _ => none
  | k + 1, x0, x5, x6, x7 => if x7 < x6 then (if 0 ≤ x7 then (if x7 < (x5.length : Int) then (if ((rdOf ByteArray.empty x5 x7).size : Int) > 200 then (some false) else (laws_short.l0 k x0 x5 x6 (wrap64 (x7 + 1)))) else (none)) else (none)) else (some (decide ((x0.length : Int) ≤ 20)))
def laws_short.f (k : Nat) (l0 : List ByteArray) : Option (Bool) := laws_short.l0 k l0 l0 (l0.length : Int) 0
set_option maxHeartbeats 8000000 in
set_option maxRecDepth 100000 in
theorem laws_short.calls (k : Nat) (A0 : Option Addr) (c0 : Nat) (l0 : List ByteArray) (r : Bool) (w : World) (hr0 : Kd.C Kd.string w A0 l0.length l0) (hc0 : l0.length ≤ c0) (h : laws_short.f k l0 = some r) :
    Calls Tryz.prog 7 #[.slice A0 l0.length c0] w fun e w' => e = .returned (.bool r) ∧ Drawn0 w w' := by
  have HR0 := Aside0.mk hr0
  have HC0 := Aside0.mk hc0
  clear hr0 hc0
  have H : (laws_short.l0 k l0 l0 (l0.length : Int) 0) = some r := h
  clear h
  have H' := Aside0.mk H
  clear H
  go_enter Tryz.func7, Tryz.ntmps7
  go_wp2
  go_loopg [7] k (fun kq v7 w' => ∃ (x7_1 : Int), v7 = .int .i64 x7_1 ∧ Aside0 (laws_short.l0 kq l0 l0 (l0.length : Int) x7_1 = some r) ∧ Aside0 (kq ≤ k) ∧ Drawn0 w w')
  case atStart => exact ⟨(0), (by first | rfl | (simp; done) | (simp [*]; done)), H', ⟨Nat.le_refl _⟩, by repeat (first | exact Drawn0.refl _ | apply Drawn0.step)⟩
  case round =>
    clear H'
    obtain ⟨x7_1, rfl, HA, HK1, ⟨m1, rfl⟩⟩ := hrel
    cases gk with
    | zero => exact absurd HA.out (by simp [laws_short.l0])
    | succ k1 =>
      have H := HA.out
      clear HA
      simp only [laws_short.l0] at H
      by_cases c2 : x7_1 < (l0.length : Int)
      · rw [if_pos c2] at H
        have c2b0 : decide (x7_1 < (l0.length : Int)) = true := decide_eq_true c2
        clear c2
        by_cases c3 : 0 ≤ x7_1
        · rw [if_pos c3] at H
          have c3b0 : decide (0 ≤ x7_1) = true := decide_eq_true c3
          clear c3
          by_cases c4 : x7_1 < (l0.length : Int)
          · rw [if_pos c4] at H
            have c4b0 : decide (x7_1 < (l0.length : Int)) = true := decide_eq_true c4
            clear c4
            by_cases c5 : ((rdOf ByteArray.empty l0 x7_1).size : Int) > 200
            · rw [if_pos c5] at H
              have c5b0 : decide (200 < ((rdOf ByteArray.empty l0 x7_1).size : Int)) = true := decide_eq_true c5
              have c5b1 : decide (200 < (rdOf ByteArray.empty l0 x7_1).size) = true := decide_eq_true (by omega)
              clear c5
              obtain rfl := Option.some.inj H
              have p101 : 0 ≤ (x7_1 : Int) := of_decide_eq_true (by first | (with_reducible assumption) | assumption)
              have q101 : x7_1 < (l0.length : Int) := of_decide_eq_true (by first | (with_reducible assumption) | assumption)
              obtain ⟨ad101, e101, hx101_0⟩ := Kd.at_string HR0.out x7_1 p101 q101
              cases e101
              replace p101 := eq_true p101
              replace q101 := eq_true q101
              go_wp2
              go_ret
              exact ⟨by first | rfl | (simp; done) | (simp [*]; done), by repeat (first | exact Drawn0.refl _ | apply Drawn0.step)⟩
            · rw [if_neg c5] at H
              have c5b0 : decide (200 < ((rdOf ByteArray.empty l0 x7_1).size : Int)) = false := decide_eq_false c5
              have c5b1 : decide (200 < (rdOf ByteArray.empty l0 x7_1).size) = false := decide_eq_false (by omega)
              clear c5
              have H' := Aside0.mk H
              clear H
              have p101 : 0 ≤ (x7_1 : Int) := of_decide_eq_true (by first | (with_reducible assumption) | assumption)
              have q101 : x7_1 < (l0.length : Int) := of_decide_eq_true (by first | (with_reducible assumption) | assumption)
              obtain ⟨ad101, e101, hx101_0⟩ := Kd.at_string HR0.out x7_1 p101 q101
              cases e101
              replace p101 := eq_true p101
              replace q101 := eq_true q101
              go_wp2
              go_roundg k1
              case measure => have := HK1.out; omega
              case rel => exact ⟨(wrap64 (x7_1 + 1)), (by first | rfl | (simp; done) | (simp [*]; done)), H', ⟨by have := HK1.out; omega⟩, by repeat (first | exact Drawn0.refl _ | apply Drawn0.step)⟩
          · rw [if_neg c4] at H
            exact absurd H (by simp)
        · rw [if_neg c3] at H
          exact absurd H (by simp)
      · rw [if_neg c2] at H
        have c2b0 : decide (x7_1 < (l0.length : Int)) = false := decide_eq_false c2
        clear c2
        obtain rfl := Option.some.inj H
        go_wp2
        go_ret
        exact ⟨by first | rfl | (simp; done) | (simp [*]; done), by repeat (first | exact Drawn0.refl _ | apply Drawn0.step)⟩

/-! ### asn1ber_uint64Length: function 141 -/
def asn1ber_uint64Length.l0 : Nat → Int → Int → Option (Int)
  | 0, _, _ => none
  | k + 1, x0, x2 => if x0 > 255 then (asn1ber_uint64Length.l0 k (x0 / 256) (wrap64 (x2 + 1))) else (some x2)
def asn1ber_uint64Length.f (k : Nat) (a0 : Int) : Option (Int) := asn1ber_uint64Length.l0 k a0 1
theorem asn1ber_uint64Length.mono_l : ∀ k, (∀ y0 y1, LeO (asn1ber_uint64Length.l0 k y0 y1) (asn1ber_uint64Length.l0 (k + 1) y0 y1))
  | 0 => fun _ _ r h => by simp [asn1ber_uint64Length.l0] at h
  | k + 1 => by
    have ih0 := asn1ber_uint64Length.mono_l k
    · intro y0 y1
      unfold asn1ber_uint64Length.l0
      repeat' first
      | (with_reducible exact ih0 _ _)
      | (with_reducible exact LeO.refl _)
      | (with_reducible exact LeO.none _)
      | (with_reducible refine LeO.ite ?_ ?_)
      | (with_reducible refine LeO.bind ?_ (fun _ => ?_))
      | exact ih0 _ _
      | exact LeO.none _
      | refine LeO.ite ?_ ?_
      | refine LeO.bind ?_ (fun _ => ?_)
theorem asn1ber_uint64Length.mono : ∀ a0 k, LeO (asn1ber_uint64Length.f k a0) (asn1ber_uint64Length.f (k + 1) a0) := by
  intro a0 k
  have ih0 := asn1ber_uint64Length.mono_l k
  unfold asn1ber_uint64Length.f
  repeat' first
      | (with_reducible exact ih0 _ _)
      | (with_reducible exact LeO.refl _)
      | (with_reducible exact LeO.none _)
      | (with_reducible refine LeO.ite ?_ ?_)
      | (with_reducible refine LeO.bind ?_ (fun _ => ?_))
      | exact ih0 _ _
      | exact LeO.none _
      | refine LeO.ite ?_ ?_
      | refine LeO.bind ?_ (fun _ => ?_)
set_option maxHeartbeats 8000000 in
set_option maxRecDepth 100000 in
theorem asn1ber_uint64Length.calls (k : Nat) (a0 : Int) (r : Int) (w : World) (h : asn1ber_uint64Length.f k a0 = some r) :
    Calls Tryz.prog 141 #[.int .u64 a0] w fun e w' => e = .returned (.int .i64 r) ∧ Drawn0 w w' := by
  have H : (asn1ber_uint64Length.l0 k a0 1) = some r := h
  clear h
  have H' := Aside0.mk H
  clear H
  go_enter Tryz.func141, Tryz.ntmps141
  go_wp2
  go_loopg [0, 2] k (fun kq v0 v2 w' => ∃ (x0_1 : Int) (x2_1 : Int), v0 = .int .u64 x0_1 ∧ v2 = .int .i64 x2_1 ∧ Aside0 (asn1ber_uint64Length.l0 kq x0_1 x2_1 = some r) ∧ Aside0 (kq ≤ k) ∧ Drawn0 w w')
  case atStart => exact ⟨(a0), (1), (by first | rfl | (simp; done) | (simp [*]; done)), (by first | rfl | (simp; done) | (simp [*]; done)), H', ⟨Nat.le_refl _⟩, by repeat (first | exact Drawn0.refl _ | apply Drawn0.step)⟩
  case round =>
    clear H'
    try clear c1
    obtain ⟨x0_1, x2_1, rfl, rfl, HA, HK1, ⟨m1, rfl⟩⟩ := hrel
    cases gk with
    | zero => exact absurd HA.out (by simp [asn1ber_uint64Length.l0])
    | succ k1 =>
      have H := HA.out
      clear HA
      simp only [asn1ber_uint64Length.l0] at H
      by_cases c2 : x0_1 > 255
      · rw [if_pos c2] at H
        have c2b0 : decide (255 < x0_1) = true := decide_eq_true c2
        clear c2
        have H' := Aside0.mk H
        clear H
        go_wp2
        go_roundg k1
        case measure => have := HK1.out; omega
        case rel => exact ⟨(x0_1 / 256), (wrap64 (x2_1 + 1)), (by first | rfl | (simp; done) | (simp [*]; done)), (by first | rfl | (simp; done) | (simp [*]; done)), H', ⟨by have := HK1.out; omega⟩, by repeat (first | exact Drawn0.refl _ | apply Drawn0.step)⟩
      · rw [if_neg c2] at H
        have c2b0 : decide (255 < x0_1) = false := decide_eq_false c2
        clear c2
        obtain rfl := Option.some.inj H
        go_wp2
        go_ret
        exact ⟨by first | rfl | (simp; done) | (simp [*]; done), by repeat (first | exact Drawn0.refl _ | apply Drawn0.step)⟩

/-! ### asn1ber_encodeUnsignedInteger: function 120 -/
def asn1ber_encodeUnsignedInteger.l0 : Nat → Int → Int → List Int → Int → Option (List Int)
  | 0, _, _, _, _ => none
  | k + 1, x0, x3, x4, x5 => if x3 > 0 then (if 0 ≤ (IntKind.u64.wrap (wrap64 ((wrap64 (x3 - 1)) * 8))) then (if 0 ≤ x5 then (if x5 < (x4.length : Int) then (asn1ber_encodeUnsignedInteger.l0 k x0 (wrap64 (x3 - 1)) (x4.set (x5 : Int).toNat ((shr .u64 x0 (IntKind.u64.wrap (wrap64 ((wrap64 (x3 - 1)) * 8)))) % 256)) (wrap64 (x5 + 1))) else (none)) else (none)) else (none)) else (some x4)
def asn1ber_encodeUnsignedInteger.f (k : Nat) (a0 : Int) : Option (List Int) := (asn1ber_uint64Length.f k a0).bind fun t102 => (if 0 ≤ t102 then (if (t102 : Int).toNat ≤ 281474976710656 then (asn1ber_encodeUnsignedInteger.l0 k a0 t102 (List.replicate (t102 : Int).toNat 0) 0) else (none)) else (none))
theorem asn1ber_encodeUnsignedInteger.mono_l : ∀ k, (∀ y0 y1 y2 y3, LeO (asn1ber_encodeUnsignedInteger.l0 k y0 y1 y2 y3) (asn1ber_encodeUnsignedInteger.l0 (k + 1) y0 y1 y2 y3))
  | 0 => fun _ _ _ _ r h => by simp [asn1ber_encodeUnsignedInteger.l0] at h
  | k + 1 => by
    have ih0 := asn1ber_encodeUnsignedInteger.mono_l k
    · intro y0 y1 y2 y3
      unfold asn1ber_encodeUnsignedInteger.l0
      repeat' first
      | (with_reducible exact ih0 _ _ _ _)
      | (with_reducible exact asn1ber_uint64Length.mono _ _)
      | (with_reducible exact LeO.refl _)
      | (with_reducible exact LeO.none _)
      | (with_reducible refine LeO.ite ?_ ?_)
      | (with_reducible refine LeO.bind ?_ (fun _ => ?_))
      | exact ih0 _ _ _ _
      | exact asn1ber_uint64Length.mono _ _
      | exact LeO.none _
      | refine LeO.ite ?_ ?_
      | refine LeO.bind ?_ (fun _ => ?_)
set_option maxHeartbeats 8000000 in
set_option maxRecDepth 100000 in
theorem asn1ber_encodeUnsignedInteger.calls (k : Nat) (a0 : Int) (r : List Int) (w : World) (h : asn1ber_encodeUnsignedInteger.f k a0 = some r) :
    Calls Tryz.prog 120 #[.int .u64 a0] w fun e w' => ∃ v0_ : Value, e = .returned (v0_) ∧ Kd.R (Kd.int .u8) 5 w' w.heap.size (fun _ => True) v0_ r ∧ Below w.heap.size w w' := by
  have HB := Aside0.mk (Below.refl w.heap.size w)
  have H : ((asn1ber_uint64Length.f k a0).bind fun t102 => (if 0 ≤ t102 then (if (t102 : Int).toNat ≤ 281474976710656 then (asn1ber_encodeUnsignedInteger.l0 k a0 t102 (List.replicate (t102 : Int).toNat 0) 0) else (none)) else (none))) = some r := h
  clear h
  replace H := Option.bind_eq_some_iff.mp H
  obtain ⟨t102, A20, H⟩ := H
  replace H : (if 0 ≤ t102 then (if (t102 : Int).toNat ≤ 281474976710656 then (asn1ber_encodeUnsignedInteger.l0 k a0 t102 (List.replicate (t102 : Int).toNat 0) 0) else (none)) else (none)) = some r := H
  have A2 := Aside0.mk A20
  clear A20
  by_cases c3 : 0 ≤ t102
  · rw [if_pos c3] at H
    have c3b0 := eq_true c3
    have c3b1 : decide (0 ≤ t102) = true := decide_eq_true c3
    clear c3
    by_cases c4 : (t102 : Int).toNat ≤ 281474976710656
    · rw [if_pos c4] at H
      have c4b0 := eq_true c4
      have c4b1 : decide ((t102 : Int).toNat ≤ 281474976710656) = true := decide_eq_true c4
      clear c4
      obtain ⟨y103, hy103⟩ : ∃ y_ : List Int, y_ = (List.replicate (t102 : Int).toNat 0) := ⟨_, rfl⟩
      replace H : (asn1ber_encodeUnsignedInteger.l0 k a0 t102 y103 0) = some r := by first | (rw [hy103]; with_reducible exact H) | (have H2_ := (Option.bind_some _ _).symm.trans H; rw [hy103]; with_reducible exact H2_) | (have H2_ := (Option.bind_some _ _).symm.trans H; with_reducible exact H2_) | with_reducible exact H | (rw [hy103]; exact H) | exact H
      have Ny103 := Aside0.mk hy103
      clear hy103
      have H' := Aside0.mk H
      clear H
      go_enter Tryz.func120, Tryz.ntmps120
      go_wp2_with (first | ((with_reducible refine gate_callee (f := 141) rfl ?_); refine goesL_ (some 7) rfl rfl Tryz.func141 (by kernel_rfl) rfl #[.int .u64 a0] rfl (by (try simp only [List.map_toArray, List.map_cons, List.map_nil]); first | done | rfl | (simp only [List.length_drop, List.length_take]; rfl)) ?_; (with_reducible refine (asn1ber_uint64Length.calls k a0 t102 _ A2.out).mono ?_); rintro e w' ⟨rfl, ⟨nd, rfl⟩⟩; refine ⟨_, rfl, ?_⟩) | ((with_reducible refine gate_dst (N := 9) rfl ?_); refine Kd.R_make (Kd.int .u8) _ 5 rfl (N := 9) rfl 22 _ _ rfl t102 rfl rfl Tryz.underlying22 (.int .u8 0) 1 info5 rfl (by decide) (by omega) 0 (ok := fun _ => True) (okp := fun _ => True) rfl (fun _ hk => hk) trivial (of_decide_eq_true (by first | (with_reducible assumption) | assumption)) (Nat.le_trans (Nat.mul_le_mul_right _ (of_decide_eq_true (by first | (with_reducible assumption) | assumption) : t102.toNat ≤ 281474976710656)) (by omega)) (Below.refl _ _) (Nat.le_refl _) ?_; intro v104 w5 ho6 hb hg_ hnew_; clear hg_ hnew_; (first | rw [← Ny103.out] at ho6 | (simp only [Int.reduceToNat] at ho6; rw [← Ny103.out] at ho6)); have n0_ := Aside0.mk (Kd.R_lower ho6 (below_size (by repeat (first | (with_reducible first | exact HB.out | apply below_alloc | apply pw_below_drewN | apply below_drew1) | exact HB.out)))); have n1_ := Aside0.mk (below_step (by repeat (first | (with_reducible first | exact HB.out | apply below_alloc | apply pw_below_drewN | apply below_drew1) | exact HB.out)) hb); clear HB; have HO105 := n0_; have HB := n1_; clear n0_ n1_; clear hb ho6))
      go_loopg [3, 5] k (fun kq v3 v5 w' => ∃ (x3_1 : Int) (x4_1 : List Int) (x5_1 : Int), v3 = .int .i64 x3_1 ∧ v5 = .int .i64 x5_1 ∧ Aside0 (asn1ber_encodeUnsignedInteger.l0 kq a0 x3_1 x4_1 x5_1 = some r) ∧ Aside0 (kq ≤ k) ∧ Aside0 (Kd.R (Kd.int .u8) 5 w' w.heap.size (fun _ => True) v104 x4_1) ∧ Aside0 (Below w.heap.size w w'))
      case atStart => exact ⟨(t102), (y103), (0), (by first | rfl | (simp; done) | (simp [*]; done)), (by first | rfl | (simp; done) | (simp [*]; done)), H', ⟨Nat.le_refl _⟩, ⟨by (with_reducible repeat (first | apply Kd.R_alloc | apply Kd.R_drewN | apply Kd.R_drew)); exact HO105.out⟩, ⟨by repeat (first | (with_reducible first | exact HB.out | apply below_alloc | apply pw_below_drewN | apply below_drew1) | exact HB.out)⟩⟩
      case round =>
        clear H'
        try clear c1
        try clear p2
        try clear c3
        try clear c3b0
        try clear c3b1
        try clear c4
        try clear c4b0
        try clear c4b1
        obtain ⟨x3_1, x4_1, x5_1, rfl, rfl, HA, HK1, HO_4, HB⟩ := hrel
        cases gk with
        | zero => exact absurd HA.out (by simp [asn1ber_encodeUnsignedInteger.l0])
        | succ k1 =>
          have H := HA.out
          clear HA
          simp only [asn1ber_encodeUnsignedInteger.l0] at H
          by_cases c7 : x3_1 > 0
          · rw [if_pos c7] at H
            have c7b0 : decide (0 < x3_1) = true := decide_eq_true c7
            clear c7
            obtain ⟨ji8, hji8⟩ : ∃ j_ : Int, (IntKind.u64.wrap (wrap64 ((wrap64 (x3_1 - 1)) * 8))) = j_ := ⟨_, rfl⟩
            replace H : (if 0 ≤ (ji8) then (if 0 ≤ x5_1 then (if x5_1 < (x4_1.length : Int) then (asn1ber_encodeUnsignedInteger.l0 k1 a0 (wrap64 (x3_1 - 1)) (x4_1.set (x5_1 : Int).toNat ((shr .u64 a0 (ji8)) % 256)) (wrap64 (x5_1 + 1))) else (none)) else (none)) else (none)) = some r := by first | (rw [hji8] at H; exact H) | (simp only [hji8] at H ⊢; exact H)
            by_cases c9 : 0 ≤ (ji8)
            · rw [if_pos c9] at H
              have c9b0 := eq_true c9
              have c9b1 : decide (0 ≤ (ji8)) = true := decide_eq_true c9
              clear c9
              obtain ⟨ji10, hji10⟩ : ∃ j_ : Int, (shr .u64 a0 (ji8)) = j_ := ⟨_, rfl⟩
              replace H : (if 0 ≤ x5_1 then (if x5_1 < (x4_1.length : Int) then (asn1ber_encodeUnsignedInteger.l0 k1 a0 (wrap64 (x3_1 - 1)) (x4_1.set (x5_1 : Int).toNat ((ji10) % 256)) (wrap64 (x5_1 + 1))) else (none)) else (none)) = some r := by first | (rw [hji10] at H; exact H) | (simp only [hji10] at H ⊢; exact H)
              have hji10_ : (a0 / 2 ^ min (ji8).toNat 64) = ji10 := hji10
              have hji10z : (ji8) ≤ 64 → (a0 / 2 ^ (ji8).toNat) = ji10 := shr_small hji10
              by_cases c11 : 0 ≤ x5_1
              · rw [if_pos c11] at H
                have c11b0 : decide (0 ≤ x5_1) = true := decide_eq_true c11
                clear c11
                by_cases c12 : x5_1 < (x4_1.length : Int)
                · rw [if_pos c12] at H
                  have c12b0 : decide (x5_1 < (x4_1.length : Int)) = true := decide_eq_true c12
                  clear c12
                  obtain ⟨y106, hy106⟩ : ∃ y_ : List Int, y_ = (x4_1.set (x5_1 : Int).toNat ((ji10) % 256)) := ⟨_, rfl⟩
                  replace H : (asn1ber_encodeUnsignedInteger.l0 k1 a0 (wrap64 (x3_1 - 1)) y106 (wrap64 (x5_1 + 1))) = some r := by first | (rw [hy106]; with_reducible exact H) | (have H2_ := (Option.bind_some _ _).symm.trans H; rw [hy106]; with_reducible exact H2_) | (have H2_ := (Option.bind_some _ _).symm.trans H; with_reducible exact H2_) | with_reducible exact H | (rw [hy106]; exact H) | exact H
                  have Ny106 := Aside0.mk hy106
                  clear hy106
                  have H' := Aside0.mk H
                  clear H
                  have p13 : 0 ≤ (x5_1 : Int) := of_decide_eq_true (by first | (with_reducible assumption) | assumption)
                  have q13 : (x5_1 : Int) < ((x4_1.length : Int) : Int) := of_decide_eq_true (by first | (with_reducible assumption) | assumption)
                  obtain ⟨go13, co13, eo13, gb13, gl13, cl13, HG13⟩ := Kd.R_form HO_4.out (by omega)
                  (first | cases eo13 | (injection eo13 with ea_ en_ ec_; (first | subst ea_ | (injection ea_ with ea_; subst ea_)); subst ec_; clear en_))
                  have GB13 := Aside0.mk gb13
                  have GG13 := Aside0.mk HG13
                  clear gb13 gl13 HG13
                  obtain ⟨hx13_0, hf13_0⟩ := Kd.R_celln 0 HO_4.out (x5_1 : Int) p13 q13
                  replace p13 := eq_true p13
                  replace q13 := eq_true q13
                  have HP14 := Kd.R_putg HO_4.out (x5_1 : Int) ((ji10) % 256)
                  go_wp2_with (first | ((with_reducible refine gate_store (t := 5) (p := 23) rfl ?_); refine store_event (t := 5) (p := 23) (v := ?vo_w15) (w1 := (wr.setCell ⟨go13, (x5_1 : Int).toNat, none⟩ (.int .u8 ((ji10) % 256)))) ?hg ?ho ?hn ?hr ?_; (case ho => rfl); (case hg => rfl); (case hn => rfl); (case hr => first | (go_simp; done) | (go_simp; rfl)); intro w15 hw; have hg : wr.grownBy w15 (some go13) := (by rw [hw]; exact HP14.2); have hp_ : Kd.R (Kd.int .u8) 5 w15 w.heap.size (fun _ => True) (.slice (some ⟨go13, 0, none⟩) x4_1.length co13) y106 := (by rw [hw, Ny106.out]; exact HP14.1); clear HP14; have n0_ := Aside0.mk (hp_); have n1_ := Aside0.mk ((by rw [hw]; exact below_set (HB.out) GB13.out : Below w.heap.size w w15)); clear HO_4; clear HB; have HO_4 := n0_; have HB := n1_; clear n0_ n1_; clear hg hw hp_))
                  go_roundg k1
                  case measure => have := HK1.out; omega
                  case rel => exact ⟨(wrap64 (x3_1 - 1)), (y106), (wrap64 (x5_1 + 1)), (by first | rfl | (simp; done) | (simp [*]; done)), (by first | rfl | (simp; done) | (simp [*]; done)), H', ⟨by have := HK1.out; omega⟩, ⟨by (with_reducible repeat (first | apply Kd.R_alloc | apply Kd.R_drewN | apply Kd.R_drew)); exact HO_4.out⟩, ⟨by repeat (first | (with_reducible first | exact HB.out | apply below_alloc | apply pw_below_drewN | apply below_drew1) | exact HB.out)⟩⟩
                · rw [if_neg c12] at H
                  exact absurd H (by simp)
              · rw [if_neg c11] at H
                exact absurd H (by simp)
            · rw [if_neg c9] at H
              exact absurd H (by simp)
          · rw [if_neg c7] at H
            have c7b0 : decide (0 < x3_1) = false := decide_eq_false c7
            clear c7
            obtain rfl := Option.some.inj H
            go_wp2
            go_ret
            exact ⟨_, by first | rfl | (simp [errW_none, errW_some] <;> rfl) | (simp [*, errW_none, errW_some] <;> rfl), by (with_reducible repeat (first | apply Kd.R_alloc | apply Kd.R_drewN | apply Kd.R_drew)); exact HO_4.out, by repeat (first | (with_reducible first | exact HB.out | apply below_alloc | apply pw_below_drewN | apply below_drew1) | exact HB.out)⟩
    · rw [if_neg c4] at H
      exact absurd H (by simp)
  · rw [if_neg c3] at H
    exact absurd H (by simp)

/-! ### asn1ber_encodeLength: function 103 -/
def asn1ber_encodeLength.f (k : Nat) (a0 : Int) : Option (List Int) := (asn1ber_encodeUnsignedInteger.f k (IntKind.u64.wrap (a0))).bind fun t107 => (if a0 > 127 then ((some (([Go.bits .or .u8 128 (((t107.length : Int)) % 256)] : List Int) : List Int)).bind fun y110 => (if y110.length + t107.length < 140737488355328 then (some (y110 ++ t107)) else (none))) else (if (t107.length : Int) > 1 then ((some (([Go.bits .or .u8 128 (((t107.length : Int)) % 256)] : List Int) : List Int)).bind fun y116 => (if y116.length + t107.length < 140737488355328 then (some (y116 ++ t107)) else (none))) else (some t107)))
set_option maxHeartbeats 8000000 in
set_option maxRecDepth 100000 in
theorem asn1ber_encodeLength.calls (k : Nat) (a0 : Int) (r : List Int) (w : World) (h : asn1ber_encodeLength.f k a0 = some r) :
    Calls Tryz.prog 103 #[.int .i64 a0] w fun e w' => ∃ v0_ : Value, e = .returned (v0_) ∧ Kd.R (Kd.int .u8) 5 w' w.heap.size (fun _ => True) v0_ r ∧ Below w.heap.size w w' := by
  have HB := Aside0.mk (Below.refl w.heap.size w)
  have H : ((asn1ber_encodeUnsignedInteger.f k (IntKind.u64.wrap (a0))).bind fun t107 => (if a0 > 127 then ((some (([Go.bits .or .u8 128 (((t107.length : Int)) % 256)] : List Int) : List Int)).bind fun y110 => (if y110.length + t107.length < 140737488355328 then (some (y110 ++ t107)) else (none))) else (if (t107.length : Int) > 1 then ((some (([Go.bits .or .u8 128 (((t107.length : Int)) % 256)] : List Int) : List Int)).bind fun y116 => (if y116.length + t107.length < 140737488355328 then (some (y116 ++ t107)) else (none))) else (some t107)))) = some r := h
  clear h
  replace H := Option.bind_eq_some_iff.mp H
  obtain ⟨t107, A20, H⟩ := H
  replace H : (if a0 > 127 then ((some (([Go.bits .or .u8 128 (((t107.length : Int)) % 256)] : List Int) : List Int)).bind fun y110 => (if y110.length + t107.length < 140737488355328 then (some (y110 ++ t107)) else (none))) else (if (t107.length : Int) > 1 then ((some (([Go.bits .or .u8 128 (((t107.length : Int)) % 256)] : List Int) : List Int)).bind fun y116 => (if y116.length + t107.length < 140737488355328 then (some (y116 ++ t107)) else (none))) else (some t107))) = some r := H
  have A2 := Aside0.mk A20
  clear A20
  by_cases c3 : a0 > 127
  · rw [if_pos c3] at H
    have c3b0 : decide (127 < a0) = true := decide_eq_true c3
    clear c3
    obtain ⟨y110, hy110⟩ : ∃ y_ : List Int, y_ = (([Go.bits .or .u8 128 (((t107.length : Int)) % 256)] : List Int)) := ⟨_, rfl⟩
    replace H : (if y110.length + t107.length < 140737488355328 then (some (y110 ++ t107)) else (none)) = some r := by first | (rw [hy110]; with_reducible exact H) | (have H2_ := (Option.bind_some _ _).symm.trans H; rw [hy110]; with_reducible exact H2_) | (have H2_ := (Option.bind_some _ _).symm.trans H; with_reducible exact H2_) | with_reducible exact H | (rw [hy110]; exact H) | exact H
    have Ny110 := Aside0.mk hy110
    clear hy110
    by_cases c4 : y110.length + t107.length < 140737488355328
    · rw [if_pos c4] at H
      have LMc4 := Aside0.mk c4
      clear c4
      obtain ⟨y113, hy113⟩ : ∃ y_ : List Int, y_ = (y110 ++ t107) := ⟨_, rfl⟩
      replace H : (some y113) = some r := by first | (rw [hy113]; with_reducible exact H) | (have H2_ := (Option.bind_some _ _).symm.trans H; rw [hy113]; with_reducible exact H2_) | (have H2_ := (Option.bind_some _ _).symm.trans H; with_reducible exact H2_) | with_reducible exact H | (rw [hy113]; exact H) | exact H
      have Ny113 := Aside0.mk hy113
      clear hy113
      obtain rfl := Option.some.inj H
      go_enter Tryz.func103, Tryz.ntmps103
      go_wp2_with (first | ((with_reducible refine gate_callee (f := 120) rfl ?_); refine goesL_ (some 7) rfl rfl Tryz.func120 (by kernel_rfl) rfl #[.int .u64 (IntKind.u64.wrap (a0))] rfl (by (try simp only [List.map_toArray, List.map_cons, List.map_nil]); first | done | rfl | (simp only [List.length_drop, List.length_take]; rfl)) ?_; (with_reducible refine (asn1ber_encodeUnsignedInteger.calls k (IntKind.u64.wrap (a0)) t107 _ A2.out).mono ?_); rintro e w5 ⟨v108, rfl, ho0, hb⟩; refine ⟨_, rfl, ?_⟩; have n0_ := Aside0.mk (Kd.R_lower ho0 (below_size (by repeat (first | (with_reducible first | exact HB.out | apply below_alloc | apply pw_below_drewN | apply below_drew1) | exact HB.out)))); have n1_ := Aside0.mk (below_step (by repeat (first | (with_reducible first | exact HB.out | apply below_alloc | apply pw_below_drewN | apply below_drew1) | exact HB.out)) hb); clear HB; have HO109 := n0_; have HB := n1_; clear n0_ n1_; (try clear hb); (try clear hb2); (try clear hk); (try clear hi); (try clear ho0); obtain ⟨Ao6, co6, eo6⟩ := Kd.R_slice HO109.out; subst eo6) | ((with_reducible refine gate_dst (N := 19) rfl ?_); (try (refine gate_guard (by rfl) ?_; dsimp only)); refine Kd.R_lit (Kd.int .u8) _ 5 ?hg (N := 19) ?hd (xs := ([Go.bits .or .u8 128 (((t107.length : Int)) % 256)] : List Int)) (inner := [.int .u8 (Go.bits .or .u8 128 (((t107.length : Int)) % 256))]) (ok := fun _ => True) (okp := fun _ => True) ?hr ?hp (fun _ hk => hk) trivial (Below.refl _ _) (Nat.le_refl _) (by simp) ?_; (case hd => rfl); (case hg => rfl); (case hr => first | (go_simp; done) | (go_simp; rfl)); (case hp => exact (Reps.one (show Kd.M (Kd.int .u8) _ _ _ (Go.bits .or .u8 128 (((t107.length : Int)) % 256)) [.int .u8 (Go.bits .or .u8 128 (((t107.length : Int)) % 256))] from rfl) (Reps.none _ _))); intro v111 w7 ho8 hb hg_ hnew_; clear hg_ hnew_; (first | rw [← Ny110.out] at ho8 | (simp only [Int.reduceToNat] at ho8; rw [← Ny110.out] at ho8)); have n0_ := Aside0.mk (Kd.R_elder' (by (with_reducible repeat (first | apply Kd.R_alloc | apply Kd.R_drewN | apply Kd.R_drew)); exact HO109.out) (Kd.R_base ho8) hb); have n1_ := Aside0.mk (Kd.R_lower (Kd.R_new' ho8 (Kd.R_lt (by (with_reducible repeat (first | apply Kd.R_alloc | apply Kd.R_drewN | apply Kd.R_drew)); exact HO109.out))) (below_size (by repeat (first | (with_reducible first | exact HB.out | apply below_alloc | apply pw_below_drewN | apply below_drew1) | exact HB.out)))); have n2_ := Aside0.mk (below_step (by repeat (first | (with_reducible first | exact HB.out | apply below_alloc | apply pw_below_drewN | apply below_drew1) | exact HB.out)) hb); clear HO109; clear HB; have HO109 := n0_; have HO112 := n1_; have HB := n2_; clear n0_ n1_ n2_; clear hb ho8) | ((with_reducible refine gate_builtin (b := .append) (xs := #[.tmp 20, .tmp 21]) rfl ?_); (try (refine gate_guard (by rfl) ?_; dsimp only)); at_builtin; refine Kd.R_append_rows (Kd.int .u8) (w0 := w) w.heap.size rfl (.tmp 20) (.tmp 21) 22 5 (.int .u8 0) 1 rfl Tryz.underlying22 info5 rfl (by decide) (by omega) v111 y110 t107 _ _ _ (fun k_ => some k_ ≠ (.slice Ao6 t107.length co6 : Value).ownBlock) (fun _ => False) rfl rfl ?aO ?aR (fun _ _ h => h) (fun _ h => h.elim) ?aF ?aB ?aS ?aL ?_; (case aR => repeat (first | exact (Kd.R_reads' HO109.out).2.2 | (with_reducible refine Kd.C_alloc ?_ _) | (with_reducible refine Kd.C_drewN ?_ _) | (with_reducible refine Kd.C_drew ?_))); (case aB => exact (by repeat (first | (with_reducible first | exact HB.out | apply below_alloc | apply pw_below_drewN | apply below_drew1) | exact HB.out))); (case aF => exact (fun k_ hk => Kd.fresh' (Kd.R_lt (by (with_reducible repeat (first | apply Kd.R_alloc | apply Kd.R_drewN | apply Kd.R_drew)); exact HO109.out)) k_ hk)); (case aO => exact (by (with_reducible repeat (first | apply Kd.R_alloc | apply Kd.R_drewN | apply Kd.R_drew)); exact Kd.R_mono HO112.out (fun _ hk => hk.2))); (case aS => exact (below_size (by repeat (first | (with_reducible first | exact HB.out | apply below_alloc | apply pw_below_drewN | apply below_drew1) | exact HB.out)))); (case aL => have := LMc4.out; omega); intro v114 w9 ho hb hg hat; rw [← Ny113.out] at ho; have n0_ := Aside0.mk (Kd.R_after (ok := (fun _ => True)) (by (with_reducible repeat (first | apply Kd.R_alloc | apply Kd.R_drewN | apply Kd.R_drew)); exact HO109.out) hg hat); have n1_ := Aside0.mk (hb); have n2_ := Aside0.mk (ho); clear HO109; clear HB; clear HO112; have HO109 := n0_; have HB := n1_; have HO115 := n2_; clear n0_ n1_ n2_; clear ho hb hg hat))
      go_ret
      exact ⟨_, by first | rfl | (simp [errW_none, errW_some] <;> rfl) | (simp [*, errW_none, errW_some] <;> rfl), by (with_reducible repeat (first | apply Kd.R_alloc | apply Kd.R_drewN | apply Kd.R_drew)); exact Kd.R_mono HO115.out (fun _ hk => trivial), by repeat (first | (with_reducible first | exact HB.out | apply below_alloc | apply pw_below_drewN | apply below_drew1) | exact HB.out)⟩
    · rw [if_neg c4] at H
      exact absurd H (by simp)
  · rw [if_neg c3] at H
    have c3b0 : decide (127 < a0) = false := decide_eq_false c3
    clear c3
    by_cases c10 : (t107.length : Int) > 1
    · rw [if_pos c10] at H
      have c10b0 : decide (1 < (t107.length : Int)) = true := decide_eq_true c10
      have c10b1 : decide (1 < t107.length) = true := decide_eq_true (by omega)
      clear c10
      obtain ⟨y116, hy116⟩ : ∃ y_ : List Int, y_ = (([Go.bits .or .u8 128 (((t107.length : Int)) % 256)] : List Int)) := ⟨_, rfl⟩
      replace H : (if y116.length + t107.length < 140737488355328 then (some (y116 ++ t107)) else (none)) = some r := by first | (rw [hy116]; with_reducible exact H) | (have H2_ := (Option.bind_some _ _).symm.trans H; rw [hy116]; with_reducible exact H2_) | (have H2_ := (Option.bind_some _ _).symm.trans H; with_reducible exact H2_) | with_reducible exact H | (rw [hy116]; exact H) | exact H
      have Ny116 := Aside0.mk hy116
      clear hy116
      by_cases c11 : y116.length + t107.length < 140737488355328
      · rw [if_pos c11] at H
        have LMc11 := Aside0.mk c11
        clear c11
        obtain ⟨y119, hy119⟩ : ∃ y_ : List Int, y_ = (y116 ++ t107) := ⟨_, rfl⟩
        replace H : (some y119) = some r := by first | (rw [hy119]; with_reducible exact H) | (have H2_ := (Option.bind_some _ _).symm.trans H; rw [hy119]; with_reducible exact H2_) | (have H2_ := (Option.bind_some _ _).symm.trans H; with_reducible exact H2_) | with_reducible exact H | (rw [hy119]; exact H) | exact H
        have Ny119 := Aside0.mk hy119
        clear hy119
        obtain rfl := Option.some.inj H
        go_enter Tryz.func103, Tryz.ntmps103
        go_wp2_with (first | ((with_reducible refine gate_callee (f := 120) rfl ?_); refine goesL_ (some 7) rfl rfl Tryz.func120 (by kernel_rfl) rfl #[.int .u64 (IntKind.u64.wrap (a0))] rfl (by (try simp only [List.map_toArray, List.map_cons, List.map_nil]); first | done | rfl | (simp only [List.length_drop, List.length_take]; rfl)) ?_; (with_reducible refine (asn1ber_encodeUnsignedInteger.calls k (IntKind.u64.wrap (a0)) t107 _ A2.out).mono ?_); rintro e w12 ⟨v108, rfl, ho0, hb⟩; refine ⟨_, rfl, ?_⟩; have n0_ := Aside0.mk (Kd.R_lower ho0 (below_size (by repeat (first | (with_reducible first | exact HB.out | apply below_alloc | apply pw_below_drewN | apply below_drew1) | exact HB.out)))); have n1_ := Aside0.mk (below_step (by repeat (first | (with_reducible first | exact HB.out | apply below_alloc | apply pw_below_drewN | apply below_drew1) | exact HB.out)) hb); clear HB; have HO109 := n0_; have HB := n1_; clear n0_ n1_; (try clear hb); (try clear hb2); (try clear hk); (try clear hi); (try clear ho0); obtain ⟨Ao13, co13, eo13⟩ := Kd.R_slice HO109.out; subst eo13) | ((with_reducible refine gate_dst (N := 19) rfl ?_); (try (refine gate_guard (by rfl) ?_; dsimp only)); refine Kd.R_lit (Kd.int .u8) _ 5 ?hg (N := 19) ?hd (xs := ([Go.bits .or .u8 128 (((t107.length : Int)) % 256)] : List Int)) (inner := [.int .u8 (Go.bits .or .u8 128 (((t107.length : Int)) % 256))]) (ok := fun _ => True) (okp := fun _ => True) ?hr ?hp (fun _ hk => hk) trivial (Below.refl _ _) (Nat.le_refl _) (by simp) ?_; (case hd => rfl); (case hg => rfl); (case hr => first | (go_simp; done) | (go_simp; rfl)); (case hp => exact (Reps.one (show Kd.M (Kd.int .u8) _ _ _ (Go.bits .or .u8 128 (((t107.length : Int)) % 256)) [.int .u8 (Go.bits .or .u8 128 (((t107.length : Int)) % 256))] from rfl) (Reps.none _ _))); intro v117 w14 ho15 hb hg_ hnew_; clear hg_ hnew_; (first | rw [← Ny116.out] at ho15 | (simp only [Int.reduceToNat] at ho15; rw [← Ny116.out] at ho15)); have n0_ := Aside0.mk (Kd.R_elder' (by (with_reducible repeat (first | apply Kd.R_alloc | apply Kd.R_drewN | apply Kd.R_drew)); exact HO109.out) (Kd.R_base ho15) hb); have n1_ := Aside0.mk (Kd.R_lower (Kd.R_new' ho15 (Kd.R_lt (by (with_reducible repeat (first | apply Kd.R_alloc | apply Kd.R_drewN | apply Kd.R_drew)); exact HO109.out))) (below_size (by repeat (first | (with_reducible first | exact HB.out | apply below_alloc | apply pw_below_drewN | apply below_drew1) | exact HB.out)))); have n2_ := Aside0.mk (below_step (by repeat (first | (with_reducible first | exact HB.out | apply below_alloc | apply pw_below_drewN | apply below_drew1) | exact HB.out)) hb); clear HO109; clear HB; have HO109 := n0_; have HO118 := n1_; have HB := n2_; clear n0_ n1_ n2_; clear hb ho15) | ((with_reducible refine gate_builtin (b := .append) (xs := #[.tmp 20, .tmp 21]) rfl ?_); (try (refine gate_guard (by rfl) ?_; dsimp only)); at_builtin; refine Kd.R_append_rows (Kd.int .u8) (w0 := w) w.heap.size rfl (.tmp 20) (.tmp 21) 22 5 (.int .u8 0) 1 rfl Tryz.underlying22 info5 rfl (by decide) (by omega) v117 y116 t107 _ _ _ (fun k_ => some k_ ≠ (.slice Ao13 t107.length co13 : Value).ownBlock) (fun _ => False) rfl rfl ?aO ?aR (fun _ _ h => h) (fun _ h => h.elim) ?aF ?aB ?aS ?aL ?_; (case aR => repeat (first | exact (Kd.R_reads' HO109.out).2.2 | (with_reducible refine Kd.C_alloc ?_ _) | (with_reducible refine Kd.C_drewN ?_ _) | (with_reducible refine Kd.C_drew ?_))); (case aB => exact (by repeat (first | (with_reducible first | exact HB.out | apply below_alloc | apply pw_below_drewN | apply below_drew1) | exact HB.out))); (case aF => exact (fun k_ hk => Kd.fresh' (Kd.R_lt (by (with_reducible repeat (first | apply Kd.R_alloc | apply Kd.R_drewN | apply Kd.R_drew)); exact HO109.out)) k_ hk)); (case aO => exact (by (with_reducible repeat (first | apply Kd.R_alloc | apply Kd.R_drewN | apply Kd.R_drew)); exact Kd.R_mono HO118.out (fun _ hk => hk.2))); (case aS => exact (below_size (by repeat (first | (with_reducible first | exact HB.out | apply below_alloc | apply pw_below_drewN | apply below_drew1) | exact HB.out)))); (case aL => have := LMc11.out; omega); intro v120 w16 ho hb hg hat; rw [← Ny119.out] at ho; have n0_ := Aside0.mk (Kd.R_after (ok := (fun _ => True)) (by (with_reducible repeat (first | apply Kd.R_alloc | apply Kd.R_drewN | apply Kd.R_drew)); exact HO109.out) hg hat); have n1_ := Aside0.mk (hb); have n2_ := Aside0.mk (ho); clear HO109; clear HB; clear HO118; have HO109 := n0_; have HB := n1_; have HO121 := n2_; clear n0_ n1_ n2_; clear ho hb hg hat))
        go_ret
        exact ⟨_, by first | rfl | (simp [errW_none, errW_some] <;> rfl) | (simp [*, errW_none, errW_some] <;> rfl), by (with_reducible repeat (first | apply Kd.R_alloc | apply Kd.R_drewN | apply Kd.R_drew)); exact Kd.R_mono HO121.out (fun _ hk => trivial), by repeat (first | (with_reducible first | exact HB.out | apply below_alloc | apply pw_below_drewN | apply below_drew1) | exact HB.out)⟩
      · rw [if_neg c11] at H
        exact absurd H (by simp)
    · rw [if_neg c10] at H
      have c10b0 : decide (1 < (t107.length : Int)) = false := decide_eq_false c10
      have c10b1 : decide (1 < t107.length) = false := decide_eq_false (by omega)
      clear c10
      obtain rfl := Option.some.inj H
      go_enter Tryz.func103, Tryz.ntmps103
      go_wp2_with (first | ((with_reducible refine gate_callee (f := 120) rfl ?_); refine goesL_ (some 7) rfl rfl Tryz.func120 (by kernel_rfl) rfl #[.int .u64 (IntKind.u64.wrap (a0))] rfl (by (try simp only [List.map_toArray, List.map_cons, List.map_nil]); first | done | rfl | (simp only [List.length_drop, List.length_take]; rfl)) ?_; (with_reducible refine (asn1ber_encodeUnsignedInteger.calls k (IntKind.u64.wrap (a0)) t107 _ A2.out).mono ?_); rintro e w17 ⟨v108, rfl, ho0, hb⟩; refine ⟨_, rfl, ?_⟩; have n0_ := Aside0.mk (Kd.R_lower ho0 (below_size (by repeat (first | (with_reducible first | exact HB.out | apply below_alloc | apply pw_below_drewN | apply below_drew1) | exact HB.out)))); have n1_ := Aside0.mk (below_step (by repeat (first | (with_reducible first | exact HB.out | apply below_alloc | apply pw_below_drewN | apply below_drew1) | exact HB.out)) hb); clear HB; have HO109 := n0_; have HB := n1_; clear n0_ n1_; (try clear hb); (try clear hb2); (try clear hk); (try clear hi); (try clear ho0); obtain ⟨Ao18, co18, eo18⟩ := Kd.R_slice HO109.out; subst eo18))
      go_ret
      exact ⟨_, by first | rfl | (simp [errW_none, errW_some] <;> rfl) | (simp [*, errW_none, errW_some] <;> rfl), by (with_reducible repeat (first | apply Kd.R_alloc | apply Kd.R_drewN | apply Kd.R_drew)); exact HO109.out, by repeat (first | (with_reducible first | exact HB.out | apply below_alloc | apply pw_below_drewN | apply below_drew1) | exact HB.out)⟩

/-! ### asn1ber_LengthBytes: function 59 -/
def asn1ber_LengthBytes.f (k : Nat) (a0 : Int) : Option (List Int) := (asn1ber_encodeLength.f k a0).bind fun t122 => (some t122)
set_option maxHeartbeats 8000000 in
set_option maxRecDepth 100000 in
theorem asn1ber_LengthBytes.calls (k : Nat) (a0 : Int) (r : List Int) (w : World) (h : asn1ber_LengthBytes.f k a0 = some r) :
    Calls Tryz.prog 59 #[.int .i64 a0] w fun e w' => ∃ v0_ : Value, e = .returned (v0_) ∧ Kd.R (Kd.int .u8) 5 w' w.heap.size (fun _ => True) v0_ r ∧ Below w.heap.size w w' := by
  have HB := Aside0.mk (Below.refl w.heap.size w)
  have H : ((asn1ber_encodeLength.f k a0).bind fun t122 => (some t122)) = some r := h
  clear h
  replace H := Option.bind_eq_some_iff.mp H
  obtain ⟨t122, A20, H⟩ := H
  replace H : (some t122) = some r := H
  have A2 := Aside0.mk A20
  clear A20
  obtain rfl := Option.some.inj H
  go_enter Tryz.func59, Tryz.ntmps59
  go_wp2_with (first | ((with_reducible refine gate_callee (f := 103) rfl ?_); refine goesL_ (some 4) rfl rfl Tryz.func103 (by kernel_rfl) rfl #[.int .i64 a0] rfl (by (try simp only [List.map_toArray, List.map_cons, List.map_nil]); first | done | rfl | (simp only [List.length_drop, List.length_take]; rfl)) ?_; (with_reducible refine (asn1ber_encodeLength.calls k a0 t122 _ A2.out).mono ?_); rintro e w3 ⟨v123, rfl, ho0, hb⟩; refine ⟨_, rfl, ?_⟩; have n0_ := Aside0.mk (Kd.R_lower ho0 (below_size (by repeat (first | (with_reducible first | exact HB.out | apply below_alloc | apply pw_below_drewN | apply below_drew1) | exact HB.out)))); have n1_ := Aside0.mk (below_step (by repeat (first | (with_reducible first | exact HB.out | apply below_alloc | apply pw_below_drewN | apply below_drew1) | exact HB.out)) hb); clear HB; have HO124 := n0_; have HB := n1_; clear n0_ n1_; (try clear hb); (try clear hb2); (try clear hk); (try clear hi); (try clear ho0)))
  go_ret
  exact ⟨_, by first | rfl | (simp [errW_none, errW_some] <;> rfl) | (simp [*, errW_none, errW_some] <;> rfl), by (with_reducible repeat (first | apply Kd.R_alloc | apply Kd.R_drewN | apply Kd.R_drew)); exact HO124.out, by repeat (first | (with_reducible first | exact HB.out | apply below_alloc | apply pw_below_drewN | apply below_drew1) | exact HB.out)⟩

/-! ### impl_EncodeLength: function 27 -/
def impl_EncodeLength.f (k : Nat) (a0 : Int) : Option (List Int) := (asn1ber_LengthBytes.f k a0).bind fun t125 => (some t125)
set_option maxHeartbeats 8000000 in
set_option maxRecDepth 100000 in
theorem impl_EncodeLength.calls (k : Nat) (a0 : Int) (r : List Int) (w : World) (h : impl_EncodeLength.f k a0 = some r) :
    Calls Tryz.prog 27 #[.int .i64 a0] w fun e w' => ∃ v0_ : Value, e = .returned (v0_) ∧ Kd.R (Kd.int .u8) 5 w' w.heap.size (fun _ => True) v0_ r ∧ Below w.heap.size w w' := by
  have HB := Aside0.mk (Below.refl w.heap.size w)
  have H : ((asn1ber_LengthBytes.f k a0).bind fun t125 => (some t125)) = some r := h
  clear h
  replace H := Option.bind_eq_some_iff.mp H
  obtain ⟨t125, A20, H⟩ := H
  replace H : (some t125) = some r := H
  have A2 := Aside0.mk A20
  clear A20
  obtain rfl := Option.some.inj H
  go_enter Tryz.func27, Tryz.ntmps27
  go_wp2_with (first | ((with_reducible refine gate_callee (f := 59) rfl ?_); refine goesL_ (some 4) rfl rfl Tryz.func59 (by kernel_rfl) rfl #[.int .i64 a0] rfl (by (try simp only [List.map_toArray, List.map_cons, List.map_nil]); first | done | rfl | (simp only [List.length_drop, List.length_take]; rfl)) ?_; (with_reducible refine (asn1ber_LengthBytes.calls k a0 t125 _ A2.out).mono ?_); rintro e w3 ⟨v126, rfl, ho0, hb⟩; refine ⟨_, rfl, ?_⟩; have n0_ := Aside0.mk (Kd.R_lower ho0 (below_size (by repeat (first | (with_reducible first | exact HB.out | apply below_alloc | apply pw_below_drewN | apply below_drew1) | exact HB.out)))); have n1_ := Aside0.mk (below_step (by repeat (first | (with_reducible first | exact HB.out | apply below_alloc | apply pw_below_drewN | apply below_drew1) | exact HB.out)) hb); clear HB; have HO127 := n0_; have HB := n1_; clear n0_ n1_; (try clear hb); (try clear hb2); (try clear hk); (try clear hi); (try clear ho0)))
  go_ret
  exact ⟨_, by first | rfl | (simp [errW_none, errW_some] <;> rfl) | (simp [*, errW_none, errW_some] <;> rfl), by (with_reducible repeat (first | apply Kd.R_alloc | apply Kd.R_drewN | apply Kd.R_drew)); exact HO127.out, by repeat (first | (with_reducible first | exact HB.out | apply below_alloc | apply pw_below_drewN | apply below_drew1) | exact HB.out)⟩

/-! ### laws_works: function 8 -/
def laws_works.f (k : Nat)  : Option (Bool) := (impl_EncodeLength.f k 5).bind fun t128 => (some ((strOfNums t128).toList == ([5] : List UInt8)))
set_option maxHeartbeats 8000000 in
set_option maxRecDepth 100000 in
theorem laws_works.calls (k : Nat)  (r : Bool) (w : World) (h : laws_works.f k  = some r) :
    Calls Tryz.prog 8 #[] w fun e w' => e = .returned (.bool r) ∧ Below w.heap.size w w' := by
  have HB := Aside0.mk (Below.refl w.heap.size w)
  have H : ((impl_EncodeLength.f k 5).bind fun t128 => (some ((strOfNums t128).toList == ([5] : List UInt8)))) = some r := h
  clear h
  replace H := Option.bind_eq_some_iff.mp H
  obtain ⟨t128, A10, H⟩ := H
  replace H : (some ((strOfNums t128).toList == ([5] : List UInt8))) = some r := H
  have A1 := Aside0.mk A10
  clear A10
  obtain rfl := Option.some.inj H
  go_enter Tryz.func8, Tryz.ntmps8
  go_wp2_with (first | ((with_reducible refine gate_callee (f := 27) rfl ?_); refine goesL_ (some 1) rfl rfl Tryz.func27 (by kernel_rfl) rfl #[.int .i64 5] rfl (by (try simp only [List.map_toArray, List.map_cons, List.map_nil]); first | done | rfl | (simp only [List.length_drop, List.length_take]; rfl)) ?_; (with_reducible refine (impl_EncodeLength.calls k 5 t128 _ A1.out).mono ?_); rintro e w2 ⟨v129, rfl, ho0, hb⟩; refine ⟨_, rfl, ?_⟩; have n0_ := Aside0.mk (Kd.R_lower ho0 (below_size (by repeat (first | (with_reducible first | exact HB.out | apply below_alloc | apply pw_below_drewN | apply below_drew1) | exact HB.out)))); have n1_ := Aside0.mk (below_step (by repeat (first | (with_reducible first | exact HB.out | apply below_alloc | apply pw_below_drewN | apply below_drew1) | exact HB.out)) hb); clear HB; have HO130 := n0_; have HB := n1_; clear n0_ n1_; (try clear hb); (try clear hb2); (try clear hk); (try clear hi); (try clear ho0); have hcv3 := own_string (P := Tryz.prog) Tryz.underlying22 Tryz.underlying5 Tryz.underlying9 (Kd.own_of_R HO130.out)))
  go_ret
  exact ⟨by first | rfl | (simp [errW_none, errW_some] <;> rfl) | (simp [*, errW_none, errW_some] <;> rfl), by repeat (first | (with_reducible first | exact HB.out | apply below_alloc | apply pw_below_drewN | apply below_drew1) | exact HB.out)⟩

-- NOT PRINTED: function 28 (impl_safely)

-- NOT PRINTED: function 9 (impl_Answer)

-- NOT PRINTED: function 10 (laws_plain)

/-! ### spec_List: function 34 -/
/-! ### spec_Whole: function 65 -/
def spec_Whole.l0 : Nat → Int → List Int → Option (List Int)
  | 0, _, _ => none
  | k + 1, x0, x3 => if (x0 / 256) = 0 then (if (Go.bits .and .i64 x0 128) = 0 then (some x3) else (if (x0 / 256) = (-1) then (some x3) else ((some (([(x0 / 256) % 256] : List Int) : List Int)).bind fun y141 => (if y141.length + x3.length < 140737488355328 then (spec_Whole.l0 k (x0 / 256) (y141 ++ x3)) else (none))))) else (if (x0 / 256) = (-1) then (if (Go.bits .and .i64 x0 128) = 0 then ((some (([(x0 / 256) % 256] : List Int) : List Int)).bind fun y147 => (if y147.length + x3.length < 140737488355328 then (spec_Whole.l0 k (x0 / 256) (y147 ++ x3)) else (none))) else (some x3)) else ((some (([(x0 / 256) % 256] : List Int) : List Int)).bind fun y153 => (if y153.length + x3.length < 140737488355328 then (spec_Whole.l0 k (x0 / 256) (y153 ++ x3)) else (none))))
def spec_Whole.f (k : Nat) (a0 : Int) : Option (List Int) := spec_Whole.l0 k a0 (([(a0) % 256] : List Int))
theorem spec_Whole.mono_l : ∀ k, (∀ y0 y1, LeO (spec_Whole.l0 k y0 y1) (spec_Whole.l0 (k + 1) y0 y1))
  | 0 => fun _ _ r h => by simp [spec_Whole.l0] at h
  | k + 1 => by
    have ih0 := spec_Whole.mono_l k
    · intro y0 y1
      unfold spec_Whole.l0
      repeat' first
      | (with_reducible exact ih0 _ _)
      | (with_reducible exact LeO.refl _)
      | (with_reducible exact LeO.none _)
      | (with_reducible refine LeO.ite ?_ ?_)
      | (with_reducible refine LeO.bind ?_ (fun _ => ?_))
      | exact ih0 _ _
      | exact LeO.none _
      | refine LeO.ite ?_ ?_
      | refine LeO.bind ?_ (fun _ => ?_)
set_option maxHeartbeats 8000000 in
set_option maxRecDepth 100000 in
theorem spec_Whole.calls (k : Nat) (a0 : Int) (r : List Int) (w : World) (h : spec_Whole.f k a0 = some r) :
    Calls Tryz.prog 65 #[.int .i64 a0] w fun e w' => ∃ v0_ : Value, e = .returned (v0_) ∧ Kd.R (Kd.int .u8) 5 w' w.heap.size (fun _ => True) v0_ r ∧ Below w.heap.size w w' := by
  have HB := Aside0.mk (Below.refl w.heap.size w)
  have H : (spec_Whole.l0 k a0 (([(a0) % 256] : List Int))) = some r := h
  clear h
  obtain ⟨y138, hy138⟩ : ∃ y_ : List Int, y_ = (([(a0) % 256] : List Int)) := ⟨_, rfl⟩
  replace H : (spec_Whole.l0 k a0 y138) = some r := by first | (rw [hy138]; with_reducible exact H) | (have H2_ := (Option.bind_some _ _).symm.trans H; rw [hy138]; with_reducible exact H2_) | (have H2_ := (Option.bind_some _ _).symm.trans H; with_reducible exact H2_) | with_reducible exact H | (rw [hy138]; exact H) | exact H
  have Ny138 := Aside0.mk hy138
  clear hy138
  have H' := Aside0.mk H
  clear H
  go_enter Tryz.func65, Tryz.ntmps65
  go_wp2_with (first | ((with_reducible refine gate_dst (N := 7) rfl ?_); refine Kd.R_lit (Kd.int .u8) _ 5 ?hg (N := 7) ?hd (xs := ([(a0) % 256] : List Int)) (inner := [.int .u8 ((a0) % 256)]) (ok := fun _ => True) (okp := fun _ => True) ?hr ?hp (fun _ hk => hk) trivial (Below.refl _ _) (Nat.le_refl _) (by simp) ?_; (case hd => rfl); (case hg => rfl); (case hr => first | (go_simp; done) | (go_simp; rfl)); (case hp => exact (Reps.one (show Kd.M (Kd.int .u8) _ _ _ ((a0) % 256) [.int .u8 ((a0) % 256)] from rfl) (Reps.none _ _))); intro v139 w2 ho3 hb hg_ hnew_; clear hg_ hnew_; (first | rw [← Ny138.out] at ho3 | (simp only [Int.reduceToNat] at ho3; rw [← Ny138.out] at ho3)); have n0_ := Aside0.mk (Kd.R_lower ho3 (below_size (by repeat (first | (with_reducible first | exact HB.out | apply below_alloc | apply pw_below_drewN | apply below_drew1) | exact HB.out)))); have n1_ := Aside0.mk (below_step (by repeat (first | (with_reducible first | exact HB.out | apply below_alloc | apply pw_below_drewN | apply below_drew1) | exact HB.out)) hb); clear HB; have HO140 := n0_; have HB := n1_; clear n0_ n1_; clear hb ho3))
  go_loopg [0, 3] k (fun kq v0 v3 w' => ∃ (x0_1 : Int) (x3_1 : List Int), v0 = .int .i64 x0_1 ∧ Aside0 (spec_Whole.l0 kq x0_1 x3_1 = some r) ∧ Aside0 (kq ≤ k) ∧ Aside0 (Kd.R (Kd.int .u8) 5 w' w.heap.size (fun _ => True) v3 x3_1) ∧ Aside0 (Below w.heap.size w w'))
  case atStart => exact ⟨(a0), (y138), (by first | rfl | (simp; done) | (simp [*]; done)), H', ⟨Nat.le_refl _⟩, ⟨by (with_reducible repeat (first | apply Kd.R_alloc | apply Kd.R_drewN | apply Kd.R_drew)); exact HO140.out⟩, ⟨by repeat (first | (with_reducible first | exact HB.out | apply below_alloc | apply pw_below_drewN | apply below_drew1) | exact HB.out)⟩⟩
  case round =>
    clear H'
    try clear p2
    obtain ⟨x0_1, x3_1, rfl, HA, HK1, HO_3, HB⟩ := hrel
    cases gk with
    | zero => exact absurd HA.out (by simp [spec_Whole.l0])
    | succ k1 =>
      have H := HA.out
      clear HA
      simp only [spec_Whole.l0] at H
      by_cases c4 : (x0_1 / 256) = 0
      · rw [if_pos c4] at H
        have c4b0 : ((x0_1 / 256) == 0) = true := beq_iff_eq.mpr c4
        have c4b1 : ((x0_1 / 256) != 0) = false := bne_eq_false_iff_eq.mpr c4
        clear c4
        by_cases c5 : (Go.bits .and .i64 x0_1 128) = 0
        · rw [if_pos c5] at H
          have c5b0 : ((Go.bits .and .i64 x0_1 128) == 0) = true := beq_iff_eq.mpr c5
          have c5b1 : ((Go.bits .and .i64 x0_1 128) != 0) = false := bne_eq_false_iff_eq.mpr c5
          clear c5
          obtain rfl := Option.some.inj H
          go_wp2
          go_ret
          exact ⟨_, by first | rfl | (simp [errW_none, errW_some] <;> rfl) | (simp [*, errW_none, errW_some] <;> rfl), by (with_reducible repeat (first | apply Kd.R_alloc | apply Kd.R_drewN | apply Kd.R_drew)); exact HO_3.out, by repeat (first | (with_reducible first | exact HB.out | apply below_alloc | apply pw_below_drewN | apply below_drew1) | exact HB.out)⟩
        · rw [if_neg c5] at H
          have c5b0 : ((Go.bits .and .i64 x0_1 128) == 0) = false := beq_eq_false_iff_ne.mpr c5
          have c5b1 : ((Go.bits .and .i64 x0_1 128) != 0) = true := bne_iff_ne.mpr c5
          by_cases c6 : (x0_1 / 256) = (-1)
          · rw [if_pos c6] at H
            have c6b0 : ((x0_1 / 256) == (-1)) = true := beq_iff_eq.mpr c6
            have c6b1 : ((x0_1 / 256) != (-1)) = false := bne_eq_false_iff_eq.mpr c6
            clear c6
            obtain rfl := Option.some.inj H
            go_wp2
            go_ret
            exact ⟨_, by first | rfl | (simp [errW_none, errW_some] <;> rfl) | (simp [*, errW_none, errW_some] <;> rfl), by (with_reducible repeat (first | apply Kd.R_alloc | apply Kd.R_drewN | apply Kd.R_drew)); exact HO_3.out, by repeat (first | (with_reducible first | exact HB.out | apply below_alloc | apply pw_below_drewN | apply below_drew1) | exact HB.out)⟩
          · rw [if_neg c6] at H
            have c6b0 : ((x0_1 / 256) == (-1)) = false := beq_eq_false_iff_ne.mpr c6
            have c6b1 : ((x0_1 / 256) != (-1)) = true := bne_iff_ne.mpr c6
            obtain ⟨y141, hy141⟩ : ∃ y_ : List Int, y_ = (([(x0_1 / 256) % 256] : List Int)) := ⟨_, rfl⟩
            replace H : (if y141.length + x3_1.length < 140737488355328 then (spec_Whole.l0 k1 (x0_1 / 256) (y141 ++ x3_1)) else (none)) = some r := by first | (rw [hy141]; with_reducible exact H) | (have H2_ := (Option.bind_some _ _).symm.trans H; rw [hy141]; with_reducible exact H2_) | (have H2_ := (Option.bind_some _ _).symm.trans H; with_reducible exact H2_) | with_reducible exact H | (rw [hy141]; exact H) | exact H
            have Ny141 := Aside0.mk hy141
            clear hy141
            by_cases c7 : y141.length + x3_1.length < 140737488355328
            · rw [if_pos c7] at H
              have LMc7 := Aside0.mk c7
              clear c7
              obtain ⟨y144, hy144⟩ : ∃ y_ : List Int, y_ = (y141 ++ x3_1) := ⟨_, rfl⟩
              replace H : (spec_Whole.l0 k1 (x0_1 / 256) y144) = some r := by first | (rw [hy144]; with_reducible exact H) | (have H2_ := (Option.bind_some _ _).symm.trans H; rw [hy144]; with_reducible exact H2_) | (have H2_ := (Option.bind_some _ _).symm.trans H; with_reducible exact H2_) | with_reducible exact H | (rw [hy144]; exact H) | exact H
              have Ny144 := Aside0.mk hy144
              clear hy144
              have H' := Aside0.mk H
              clear H
              go_wp2_with (first | ((with_reducible refine gate_dst (N := 30) rfl ?_); refine Kd.R_lit (Kd.int .u8) _ 5 ?hg (N := 30) ?hd (xs := ([(x0_1 / 256) % 256] : List Int)) (inner := [.int .u8 ((x0_1 / 256) % 256)]) (ok := fun _ => True) (okp := fun _ => True) ?hr ?hp (fun _ hk => hk) trivial (Below.refl _ _) (Nat.le_refl _) (by simp) ?_; (case hd => rfl); (case hg => rfl); (case hr => first | (go_simp; done) | (go_simp; rfl)); (case hp => exact (Reps.one (show Kd.M (Kd.int .u8) _ _ _ ((x0_1 / 256) % 256) [.int .u8 ((x0_1 / 256) % 256)] from rfl) (Reps.none _ _))); intro v142 w8 ho9 hb hg_ hnew_; clear hg_ hnew_; (first | rw [← Ny141.out] at ho9 | (simp only [Int.reduceToNat] at ho9; rw [← Ny141.out] at ho9)); have n0_ := Aside0.mk (Kd.R_elder' (by (with_reducible repeat (first | apply Kd.R_alloc | apply Kd.R_drewN | apply Kd.R_drew)); exact HO_3.out) (Kd.R_base ho9) hb); have n1_ := Aside0.mk (Kd.R_lower (Kd.R_new' ho9 (Kd.R_lt (by (with_reducible repeat (first | apply Kd.R_alloc | apply Kd.R_drewN | apply Kd.R_drew)); exact HO_3.out))) (below_size (by repeat (first | (with_reducible first | exact HB.out | apply below_alloc | apply pw_below_drewN | apply below_drew1) | exact HB.out)))); have n2_ := Aside0.mk (below_step (by repeat (first | (with_reducible first | exact HB.out | apply below_alloc | apply pw_below_drewN | apply below_drew1) | exact HB.out)) hb); clear HO_3; clear HB; have HO_3 := n0_; have HO143 := n1_; have HB := n2_; clear n0_ n1_ n2_; clear hb ho9; obtain ⟨Ao11, co11, eo11⟩ := Kd.R_slice HO_3.out; subst eo11) | ((with_reducible refine gate_builtin (b := .append) (xs := #[.tmp 30, .tmp 31]) rfl ?_); at_builtin; refine Kd.R_append_rows (Kd.int .u8) (w0 := w) w.heap.size rfl (.tmp 30) (.tmp 31) 22 5 (.int .u8 0) 1 rfl Tryz.underlying22 info5 rfl (by decide) (by omega) v142 y141 x3_1 _ _ _ (fun k_ => some k_ ≠ (.slice Ao11 x3_1.length co11 : Value).ownBlock) (fun _ => False) rfl rfl ?aO ?aR (fun _ _ h => h) (fun _ h => h.elim) ?aF ?aB ?aS ?aL ?_; (case aR => repeat (first | exact (Kd.R_reads' HO_3.out).2.2 | (with_reducible refine Kd.C_alloc ?_ _) | (with_reducible refine Kd.C_drewN ?_ _) | (with_reducible refine Kd.C_drew ?_))); (case aB => exact (by repeat (first | (with_reducible first | exact HB.out | apply below_alloc | apply pw_below_drewN | apply below_drew1) | exact HB.out))); (case aF => exact (fun k_ hk => Kd.fresh' (Kd.R_lt (by (with_reducible repeat (first | apply Kd.R_alloc | apply Kd.R_drewN | apply Kd.R_drew)); exact HO_3.out)) k_ hk)); (case aO => exact (by (with_reducible repeat (first | apply Kd.R_alloc | apply Kd.R_drewN | apply Kd.R_drew)); exact Kd.R_mono HO143.out (fun _ hk => hk.2))); (case aS => exact (below_size (by repeat (first | (with_reducible first | exact HB.out | apply below_alloc | apply pw_below_drewN | apply below_drew1) | exact HB.out)))); (case aL => have := LMc7.out; omega); intro v145 w10 ho hb hg hat; rw [← Ny144.out] at ho; have n0_ := Aside0.mk (Kd.R_after (ok := (fun _ => True)) (by (with_reducible repeat (first | apply Kd.R_alloc | apply Kd.R_drewN | apply Kd.R_drew)); exact HO_3.out) hg hat); have n1_ := Aside0.mk (hb); have n2_ := Aside0.mk (ho); clear HO_3; clear HB; clear HO143; have HO_3 := n0_; have HB := n1_; have HO146 := n2_; clear n0_ n1_ n2_; clear ho hb hg hat))
              go_roundg k1
              case measure => have := HK1.out; omega
              case rel => exact ⟨(x0_1 / 256), (y144), (by first | rfl | (simp; done) | (simp [*]; done)), H', ⟨by have := HK1.out; omega⟩, ⟨by (with_reducible repeat (first | apply Kd.R_alloc | apply Kd.R_drewN | apply Kd.R_drew)); exact Kd.R_mono HO146.out (fun _ hk => trivial)⟩, ⟨by repeat (first | (with_reducible first | exact HB.out | apply below_alloc | apply pw_below_drewN | apply below_drew1) | exact HB.out)⟩⟩
            · rw [if_neg c7] at H
              exact absurd H (by simp)
      · rw [if_neg c4] at H
        have c4b0 : ((x0_1 / 256) == 0) = false := beq_eq_false_iff_ne.mpr c4
        have c4b1 : ((x0_1 / 256) != 0) = true := bne_iff_ne.mpr c4
        by_cases c12 : (x0_1 / 256) = (-1)
        · rw [if_pos c12] at H
          have c12b0 : ((x0_1 / 256) == (-1)) = true := beq_iff_eq.mpr c12
          have c12b1 : ((x0_1 / 256) != (-1)) = false := bne_eq_false_iff_eq.mpr c12
          clear c12
          by_cases c13 : (Go.bits .and .i64 x0_1 128) = 0
          · rw [if_pos c13] at H
            have c13b0 : ((Go.bits .and .i64 x0_1 128) == 0) = true := beq_iff_eq.mpr c13
            have c13b1 : ((Go.bits .and .i64 x0_1 128) != 0) = false := bne_eq_false_iff_eq.mpr c13
            clear c13
            obtain ⟨y147, hy147⟩ : ∃ y_ : List Int, y_ = (([(x0_1 / 256) % 256] : List Int)) := ⟨_, rfl⟩
            replace H : (if y147.length + x3_1.length < 140737488355328 then (spec_Whole.l0 k1 (x0_1 / 256) (y147 ++ x3_1)) else (none)) = some r := by first | (rw [hy147]; with_reducible exact H) | (have H2_ := (Option.bind_some _ _).symm.trans H; rw [hy147]; with_reducible exact H2_) | (have H2_ := (Option.bind_some _ _).symm.trans H; with_reducible exact H2_) | with_reducible exact H | (rw [hy147]; exact H) | exact H
            have Ny147 := Aside0.mk hy147
            clear hy147
            by_cases c14 : y147.length + x3_1.length < 140737488355328
            · rw [if_pos c14] at H
              have LMc14 := Aside0.mk c14
              clear c14
              obtain ⟨y150, hy150⟩ : ∃ y_ : List Int, y_ = (y147 ++ x3_1) := ⟨_, rfl⟩
              replace H : (spec_Whole.l0 k1 (x0_1 / 256) y150) = some r := by first | (rw [hy150]; with_reducible exact H) | (have H2_ := (Option.bind_some _ _).symm.trans H; rw [hy150]; with_reducible exact H2_) | (have H2_ := (Option.bind_some _ _).symm.trans H; with_reducible exact H2_) | with_reducible exact H | (rw [hy150]; exact H) | exact H
              have Ny150 := Aside0.mk hy150
              clear hy150
              have H' := Aside0.mk H
              clear H
              go_wp2_with (first | ((with_reducible refine gate_dst (N := 30) rfl ?_); refine Kd.R_lit (Kd.int .u8) _ 5 ?hg (N := 30) ?hd (xs := ([(x0_1 / 256) % 256] : List Int)) (inner := [.int .u8 ((x0_1 / 256) % 256)]) (ok := fun _ => True) (okp := fun _ => True) ?hr ?hp (fun _ hk => hk) trivial (Below.refl _ _) (Nat.le_refl _) (by simp) ?_; (case hd => rfl); (case hg => rfl); (case hr => first | (go_simp; done) | (go_simp; rfl)); (case hp => exact (Reps.one (show Kd.M (Kd.int .u8) _ _ _ ((x0_1 / 256) % 256) [.int .u8 ((x0_1 / 256) % 256)] from rfl) (Reps.none _ _))); intro v148 w15 ho16 hb hg_ hnew_; clear hg_ hnew_; (first | rw [← Ny147.out] at ho16 | (simp only [Int.reduceToNat] at ho16; rw [← Ny147.out] at ho16)); have n0_ := Aside0.mk (Kd.R_elder' (by (with_reducible repeat (first | apply Kd.R_alloc | apply Kd.R_drewN | apply Kd.R_drew)); exact HO_3.out) (Kd.R_base ho16) hb); have n1_ := Aside0.mk (Kd.R_lower (Kd.R_new' ho16 (Kd.R_lt (by (with_reducible repeat (first | apply Kd.R_alloc | apply Kd.R_drewN | apply Kd.R_drew)); exact HO_3.out))) (below_size (by repeat (first | (with_reducible first | exact HB.out | apply below_alloc | apply pw_below_drewN | apply below_drew1) | exact HB.out)))); have n2_ := Aside0.mk (below_step (by repeat (first | (with_reducible first | exact HB.out | apply below_alloc | apply pw_below_drewN | apply below_drew1) | exact HB.out)) hb); clear HO_3; clear HB; have HO_3 := n0_; have HO149 := n1_; have HB := n2_; clear n0_ n1_ n2_; clear hb ho16; obtain ⟨Ao18, co18, eo18⟩ := Kd.R_slice HO_3.out; subst eo18) | ((with_reducible refine gate_builtin (b := .append) (xs := #[.tmp 30, .tmp 31]) rfl ?_); at_builtin; refine Kd.R_append_rows (Kd.int .u8) (w0 := w) w.heap.size rfl (.tmp 30) (.tmp 31) 22 5 (.int .u8 0) 1 rfl Tryz.underlying22 info5 rfl (by decide) (by omega) v148 y147 x3_1 _ _ _ (fun k_ => some k_ ≠ (.slice Ao18 x3_1.length co18 : Value).ownBlock) (fun _ => False) rfl rfl ?aO ?aR (fun _ _ h => h) (fun _ h => h.elim) ?aF ?aB ?aS ?aL ?_; (case aR => repeat (first | exact (Kd.R_reads' HO_3.out).2.2 | (with_reducible refine Kd.C_alloc ?_ _) | (with_reducible refine Kd.C_drewN ?_ _) | (with_reducible refine Kd.C_drew ?_))); (case aB => exact (by repeat (first | (with_reducible first | exact HB.out | apply below_alloc | apply pw_below_drewN | apply below_drew1) | exact HB.out))); (case aF => exact (fun k_ hk => Kd.fresh' (Kd.R_lt (by (with_reducible repeat (first | apply Kd.R_alloc | apply Kd.R_drewN | apply Kd.R_drew)); exact HO_3.out)) k_ hk)); (case aO => exact (by (with_reducible repeat (first | apply Kd.R_alloc | apply Kd.R_drewN | apply Kd.R_drew)); exact Kd.R_mono HO149.out (fun _ hk => hk.2))); (case aS => exact (below_size (by repeat (first | (with_reducible first | exact HB.out | apply below_alloc | apply pw_below_drewN | apply below_drew1) | exact HB.out)))); (case aL => have := LMc14.out; omega); intro v151 w17 ho hb hg hat; rw [← Ny150.out] at ho; have n0_ := Aside0.mk (Kd.R_after (ok := (fun _ => True)) (by (with_reducible repeat (first | apply Kd.R_alloc | apply Kd.R_drewN | apply Kd.R_drew)); exact HO_3.out) hg hat); have n1_ := Aside0.mk (hb); have n2_ := Aside0.mk (ho); clear HO_3; clear HB; clear HO149; have HO_3 := n0_; have HB := n1_; have HO152 := n2_; clear n0_ n1_ n2_; clear ho hb hg hat))
              go_roundg k1
              case measure => have := HK1.out; omega
              case rel => exact ⟨(x0_1 / 256), (y150), (by first | rfl | (simp; done) | (simp [*]; done)), H', ⟨by have := HK1.out; omega⟩, ⟨by (with_reducible repeat (first | apply Kd.R_alloc | apply Kd.R_drewN | apply Kd.R_drew)); exact Kd.R_mono HO152.out (fun _ hk => trivial)⟩, ⟨by repeat (first | (with_reducible first | exact HB.out | apply below_alloc | apply pw_below_drewN | apply below_drew1) | exact HB.out)⟩⟩
            · rw [if_neg c14] at H
              exact absurd H (by simp)
          · rw [if_neg c13] at H
            have c13b0 : ((Go.bits .and .i64 x0_1 128) == 0) = false := beq_eq_false_iff_ne.mpr c13
            have c13b1 : ((Go.bits .and .i64 x0_1 128) != 0) = true := bne_iff_ne.mpr c13
            obtain rfl := Option.some.inj H
            go_wp2
            go_ret
            exact ⟨_, by first | rfl | (simp [errW_none, errW_some] <;> rfl) | (simp [*, errW_none, errW_some] <;> rfl), by (with_reducible repeat (first | apply Kd.R_alloc | apply Kd.R_drewN | apply Kd.R_drew)); exact HO_3.out, by repeat (first | (with_reducible first | exact HB.out | apply below_alloc | apply pw_below_drewN | apply below_drew1) | exact HB.out)⟩
        · rw [if_neg c12] at H
          have c12b0 : ((x0_1 / 256) == (-1)) = false := beq_eq_false_iff_ne.mpr c12
          have c12b1 : ((x0_1 / 256) != (-1)) = true := bne_iff_ne.mpr c12
          obtain ⟨y153, hy153⟩ : ∃ y_ : List Int, y_ = (([(x0_1 / 256) % 256] : List Int)) := ⟨_, rfl⟩
          replace H : (if y153.length + x3_1.length < 140737488355328 then (spec_Whole.l0 k1 (x0_1 / 256) (y153 ++ x3_1)) else (none)) = some r := by first | (rw [hy153]; with_reducible exact H) | (have H2_ := (Option.bind_some _ _).symm.trans H; rw [hy153]; with_reducible exact H2_) | (have H2_ := (Option.bind_some _ _).symm.trans H; with_reducible exact H2_) | with_reducible exact H | (rw [hy153]; exact H) | exact H
          have Ny153 := Aside0.mk hy153
          clear hy153
          by_cases c19 : y153.length + x3_1.length < 140737488355328
          · rw [if_pos c19] at H
            have LMc19 := Aside0.mk c19
            clear c19
            obtain ⟨y156, hy156⟩ : ∃ y_ : List Int, y_ = (y153 ++ x3_1) := ⟨_, rfl⟩
            replace H : (spec_Whole.l0 k1 (x0_1 / 256) y156) = some r := by first | (rw [hy156]; with_reducible exact H) | (have H2_ := (Option.bind_some _ _).symm.trans H; rw [hy156]; with_reducible exact H2_) | (have H2_ := (Option.bind_some _ _).symm.trans H; with_reducible exact H2_) | with_reducible exact H | (rw [hy156]; exact H) | exact H
            have Ny156 := Aside0.mk hy156
            clear hy156
            have H' := Aside0.mk H
            clear H
            go_wp2_with (first | ((with_reducible refine gate_dst (N := 30) rfl ?_); refine Kd.R_lit (Kd.int .u8) _ 5 ?hg (N := 30) ?hd (xs := ([(x0_1 / 256) % 256] : List Int)) (inner := [.int .u8 ((x0_1 / 256) % 256)]) (ok := fun _ => True) (okp := fun _ => True) ?hr ?hp (fun _ hk => hk) trivial (Below.refl _ _) (Nat.le_refl _) (by simp) ?_; (case hd => rfl); (case hg => rfl); (case hr => first | (go_simp; done) | (go_simp; rfl)); (case hp => exact (Reps.one (show Kd.M (Kd.int .u8) _ _ _ ((x0_1 / 256) % 256) [.int .u8 ((x0_1 / 256) % 256)] from rfl) (Reps.none _ _))); intro v154 w20 ho21 hb hg_ hnew_; clear hg_ hnew_; (first | rw [← Ny153.out] at ho21 | (simp only [Int.reduceToNat] at ho21; rw [← Ny153.out] at ho21)); have n0_ := Aside0.mk (Kd.R_elder' (by (with_reducible repeat (first | apply Kd.R_alloc | apply Kd.R_drewN | apply Kd.R_drew)); exact HO_3.out) (Kd.R_base ho21) hb); have n1_ := Aside0.mk (Kd.R_lower (Kd.R_new' ho21 (Kd.R_lt (by (with_reducible repeat (first | apply Kd.R_alloc | apply Kd.R_drewN | apply Kd.R_drew)); exact HO_3.out))) (below_size (by repeat (first | (with_reducible first | exact HB.out | apply below_alloc | apply pw_below_drewN | apply below_drew1) | exact HB.out)))); have n2_ := Aside0.mk (below_step (by repeat (first | (with_reducible first | exact HB.out | apply below_alloc | apply pw_below_drewN | apply below_drew1) | exact HB.out)) hb); clear HO_3; clear HB; have HO_3 := n0_; have HO155 := n1_; have HB := n2_; clear n0_ n1_ n2_; clear hb ho21; obtain ⟨Ao23, co23, eo23⟩ := Kd.R_slice HO_3.out; subst eo23) | ((with_reducible refine gate_builtin (b := .append) (xs := #[.tmp 30, .tmp 31]) rfl ?_); at_builtin; refine Kd.R_append_rows (Kd.int .u8) (w0 := w) w.heap.size rfl (.tmp 30) (.tmp 31) 22 5 (.int .u8 0) 1 rfl Tryz.underlying22 info5 rfl (by decide) (by omega) v154 y153 x3_1 _ _ _ (fun k_ => some k_ ≠ (.slice Ao23 x3_1.length co23 : Value).ownBlock) (fun _ => False) rfl rfl ?aO ?aR (fun _ _ h => h) (fun _ h => h.elim) ?aF ?aB ?aS ?aL ?_; (case aR => repeat (first | exact (Kd.R_reads' HO_3.out).2.2 | (with_reducible refine Kd.C_alloc ?_ _) | (with_reducible refine Kd.C_drewN ?_ _) | (with_reducible refine Kd.C_drew ?_))); (case aB => exact (by repeat (first | (with_reducible first | exact HB.out | apply below_alloc | apply pw_below_drewN | apply below_drew1) | exact HB.out))); (case aF => exact (fun k_ hk => Kd.fresh' (Kd.R_lt (by (with_reducible repeat (first | apply Kd.R_alloc | apply Kd.R_drewN | apply Kd.R_drew)); exact HO_3.out)) k_ hk)); (case aO => exact (by (with_reducible repeat (first | apply Kd.R_alloc | apply Kd.R_drewN | apply Kd.R_drew)); exact Kd.R_mono HO155.out (fun _ hk => hk.2))); (case aS => exact (below_size (by repeat (first | (with_reducible first | exact HB.out | apply below_alloc | apply pw_below_drewN | apply below_drew1) | exact HB.out)))); (case aL => have := LMc19.out; omega); intro v157 w22 ho hb hg hat; rw [← Ny156.out] at ho; have n0_ := Aside0.mk (Kd.R_after (ok := (fun _ => True)) (by (with_reducible repeat (first | apply Kd.R_alloc | apply Kd.R_drewN | apply Kd.R_drew)); exact HO_3.out) hg hat); have n1_ := Aside0.mk (hb); have n2_ := Aside0.mk (ho); clear HO_3; clear HB; clear HO155; have HO_3 := n0_; have HB := n1_; have HO158 := n2_; clear n0_ n1_ n2_; clear ho hb hg hat))
            go_roundg k1
            case measure => have := HK1.out; omega
            case rel => exact ⟨(x0_1 / 256), (y156), (by first | rfl | (simp; done) | (simp [*]; done)), H', ⟨by have := HK1.out; omega⟩, ⟨by (with_reducible repeat (first | apply Kd.R_alloc | apply Kd.R_drewN | apply Kd.R_drew)); exact Kd.R_mono HO158.out (fun _ hk => trivial)⟩, ⟨by repeat (first | (with_reducible first | exact HB.out | apply below_alloc | apply pw_below_drewN | apply below_drew1) | exact HB.out)⟩⟩
          · rw [if_neg c19] at H
            exact absurd H (by simp)

/-! ### spec_Number: function 35 -/
def spec_Number.f (k : Nat) (a0 : Int) : Option (Int × Int × Bool × List Int × (List (S34))) := (spec_Whole.f k a0).bind fun t160 => (some (0, 2, false, t160, ([] : List (S34))))
set_option maxHeartbeats 8000000 in
set_option maxRecDepth 100000 in
theorem spec_Number.calls (k : Nat) (a0 : Int) (r1 : Int) (r2 : Int) (r3 : Bool) (r4 : List Int) (r5 : List (S34)) (w : World) (h : spec_Number.f k a0 = some (r1, r2, r3, r4, r5)) :
    Calls Tryz.prog 35 #[.int .i64 a0] w fun e w' => ∃ v3_ v4_ : Value, e = .returned (.agg #[.int .i64 r1, .int .i64 r2, .bool r3, v3_, v4_]) ∧ Kd.R (Kd.int .u8) 5 w' w.heap.size (fun _ => True) v3_ r4 ∧ Kd.R k34 34 w' w.heap.size (fun k_ => some k_ ≠ (v3_ : Value).ownBlock) v4_ r5 ∧ Below w.heap.size w w' := by
  have hu34 := Tryz.underlying34
  have HB := Aside0.mk (Below.refl w.heap.size w)
  have H : ((spec_Whole.f k a0).bind fun t160 => (some (0, 2, false, t160, ([] : List (S34))))) = some (r1, r2, r3, r4, r5) := h
  clear h
  replace H := Option.bind_eq_some_iff.mp H
  obtain ⟨t160, A20, H⟩ := H
  replace H : (some (0, 2, false, t160, ([] : List (S34)))) = some (r1, r2, r3, r4, r5) := H
  have A2 := Aside0.mk A20
  clear A20
  simp only [Option.some.injEq, Prod.mk.injEq] at H
  obtain ⟨rfl, rfl, rfl, rfl, rfl⟩ := H
  go_enter Tryz.func35, Tryz.ntmps35
  go_wp2_with (first | ((with_reducible refine gate_dst (N := 2) rfl ?_); refine box_event ?hg (N := 2) ?hd (cs := #[.int .i64 0, .int .i64 0, .bool false, .slice none 0 0, .slice none 0 0]) (t := 34) ?hr ?_; (case hd => rfl); (case hg => rfl); (case hr => first | (go_simp; done) | (go_simp; rfl)); intro gb159 hg w3 hbox hb; have n0_ := Aside0.mk (below_step (by repeat (first | (with_reducible first | exact HB.out | apply below_alloc | apply pw_below_drewN | apply below_drew1) | exact HB.out)) hb); have n1_ := Aside0.mk (hbox); have n2_ := Aside0.mk ((by rw [hg]; exact (below_size (by repeat (first | (with_reducible first | exact HB.out | apply below_alloc | apply pw_below_drewN | apply below_drew1) | exact HB.out))) : w.heap.size ≤ gb159)); have n3_ := Aside0.mk ((by rw [hg]; exact (below_size (by repeat (first | (with_reducible first | exact HB.out | apply below_alloc | apply pw_below_drewN | apply below_drew1) | exact HB.out))) : w.heap.size ≤ gb159)); clear HB; have HB := n0_; have BK159 := n1_; have GW159 := n2_; have GE159 := n3_; clear n0_ n1_ n2_ n3_; clear hb hbox hg) | ((with_reducible refine gate_callee (f := 65) rfl ?_); refine goesL_ (some 4) rfl rfl Tryz.func65 (by kernel_rfl) rfl #[.int .i64 a0] rfl (by (try simp only [List.map_toArray, List.map_cons, List.map_nil]); first | done | rfl | (simp only [List.length_drop, List.length_take]; rfl)) ?_; (with_reducible refine (spec_Whole.calls k a0 t160 _ A2.out).mono ?_); rintro e w4 ⟨v161, rfl, ho0, hb⟩; refine ⟨_, rfl, ?_⟩; have n0_ := Aside0.mk (Kd.R_lower ho0 (below_size (by repeat (first | (with_reducible first | exact HB.out | apply below_alloc | apply pw_below_drewN | apply below_drew1 | refine below_set ?_ GE159.out) | exact HB.out)))); have n1_ := Aside0.mk (blk_below (g := gb159) (o := .cells #[.int .i64 0, .int .i64 0, .bool false, .slice none 0 0, .slice none 0 0] 34 (0, 0)) (by (with_reducible repeat (first | refine blk_drewN ?_ _ | refine blk_drew ?_ | refine blk_alloc ?_ _)); exact BK159.out) hb); have n2_ := Aside0.mk (below_step (by repeat (first | (with_reducible first | exact HB.out | apply below_alloc | apply pw_below_drewN | apply below_drew1 | refine below_set ?_ GE159.out) | exact HB.out)) hb); clear BK159; clear HB; have HO162 := n0_; have BK159 := n1_; have HB := n2_; clear n0_ n1_ n2_; (try clear hb); (try clear hb2); (try clear hk); (try clear hi); (try clear ho0); obtain ⟨Ao5, co5, eo5⟩ := Kd.R_slice HO162.out; subst eo5; have hcz6_0 : w4.cell? ⟨gb159, 0, none⟩ = some (.int .i64 0) := (blk_cell BK159.out 0).trans rfl; have hcz6_1 : w4.cell? ⟨gb159, 1, none⟩ = some (.int .i64 0) := (blk_cell BK159.out 1).trans rfl; have hcz6_2 : w4.cell? ⟨gb159, 2, none⟩ = some (.bool false) := (blk_cell BK159.out 2).trans rfl; have hcz6_3 : w4.cell? ⟨gb159, 3, none⟩ = some (.slice none 0 0) := (blk_cell BK159.out 3).trans rfl; have hcz6_4 : w4.cell? ⟨gb159, 4, none⟩ = some (.slice none 0 0) := (blk_cell BK159.out 4).trans rfl; have hfz6_0 := blk_frozen BK159.out 0; have hfz6_1 := blk_frozen BK159.out 1; have hfz6_2 := blk_frozen BK159.out 2; have hfz6_3 := blk_frozen BK159.out 3; have hfz6_4 := blk_frozen BK159.out 4))
  refine bodyPost_ret (results_cell_row rfl _ _ gb159 34 #[.int .i64 0, .int .i64 2, .bool false, .slice Ao5 t160.length co5, .slice none 0 0] (0, 0) _ rfl (by (with_reducible repeat (first | refine blk_drewN ?_ _ | refine blk_drew ?_ | refine blk_alloc ?_ _)); refine blk_put (cs := #[.int .i64 0, .int .i64 2, .bool false, .slice Ao5 t160.length co5, .slice none 0 0]) ?_ 4 _ rfl; (with_reducible repeat (first | refine blk_drewN ?_ _ | refine blk_drew ?_ | refine blk_alloc ?_ _)); refine blk_put (cs := #[.int .i64 0, .int .i64 2, .bool false, .slice none 0 0, .slice none 0 0]) ?_ 3 _ rfl; (with_reducible repeat (first | refine blk_drewN ?_ _ | refine blk_drew ?_ | refine blk_alloc ?_ _)); refine blk_put (cs := #[.int .i64 0, .int .i64 2, .bool false, .slice none 0 0, .slice none 0 0]) ?_ 2 _ rfl; (with_reducible repeat (first | refine blk_drewN ?_ _ | refine blk_drew ?_ | refine blk_alloc ?_ _)); refine blk_put (cs := #[.int .i64 0, .int .i64 0, .bool false, .slice none 0 0, .slice none 0 0]) ?_ 1 _ rfl; (with_reducible repeat (first | refine blk_drewN ?_ _ | refine blk_drew ?_ | refine blk_alloc ?_ _)); refine blk_put (cs := #[.int .i64 0, .int .i64 0, .bool false, .slice none 0 0, .slice none 0 0]) ?_ 0 _ rfl; (with_reducible repeat (first | refine blk_drewN ?_ _ | refine blk_drew ?_ | refine blk_alloc ?_ _)); exact BK159.out) Tryz.underlying34 rfl (by kernel_rfl)) rfl ?_
  exact ⟨_, _, by first | rfl | (simp [errW_none, errW_some] <;> rfl) | (simp [*, errW_none, errW_some] <;> rfl), by (with_reducible repeat (first | apply Kd.R_alloc | apply Kd.R_drewN | apply Kd.R_drew)); exact Kd.R_mono (Kd.R_far (p := ⟨gb159, 4, none⟩) (Kd.R_far (p := ⟨gb159, 3, none⟩) (Kd.R_far (p := ⟨gb159, 2, none⟩) (Kd.R_far (p := ⟨gb159, 1, none⟩) (Kd.R_far (p := ⟨gb159, 0, none⟩) (Kd.R_types HO162.out BK159.out (by decide)) (fun _ hk => hk.2) (.int .i64 0)) (fun _ hk => hk.2) (.int .i64 2)) (fun _ hk => hk.2) (.bool false)) (fun _ hk => hk.2) (.slice Ao5 t160.length co5)) (fun _ hk => hk.2) (.slice none 0 0)) (fun _ hk => trivial), by first | exact Kd.R_nil _ _ _ _ _ | exact Kd.N_nil _ _ _ _ _ | exact Kd.V_nil _ _ _ _ _ | exact Kd.Q_nil _ _ _ _ _ | exact Kd.S_nil _ _ _ _ _, by repeat (first | (with_reducible first | exact HB.out | apply below_alloc | apply pw_below_drewN | apply below_drew1 | refine below_set ?_ GE159.out) | exact HB.out)⟩

-- NOT PRINTED: function 11 (spec_Message)

-- NOT PRINTED: function 37 (spec_Octets)

/-! ### spec_tagged: function 36 -/
/-! ### spec_operation: function 53 -/
/-! ### spec_Code: function 54 -/
def spec_Code.f (k : Nat) (a0 : Int) : Option (Int × Int × Bool × List Int × (List (S34))) := (spec_Whole.f k a0).bind fun t210 => (some (0, 10, false, t210, ([] : List (S34))))
set_option maxHeartbeats 8000000 in
set_option maxRecDepth 100000 in
theorem spec_Code.calls (k : Nat) (a0 : Int) (r1 : Int) (r2 : Int) (r3 : Bool) (r4 : List Int) (r5 : List (S34)) (w : World) (h : spec_Code.f k a0 = some (r1, r2, r3, r4, r5)) :
    Calls Tryz.prog 54 #[.int .i64 a0] w fun e w' => ∃ v3_ v4_ : Value, e = .returned (.agg #[.int .i64 r1, .int .i64 r2, .bool r3, v3_, v4_]) ∧ Kd.R (Kd.int .u8) 5 w' w.heap.size (fun _ => True) v3_ r4 ∧ Kd.R k34 34 w' w.heap.size (fun k_ => some k_ ≠ (v3_ : Value).ownBlock) v4_ r5 ∧ Below w.heap.size w w' := by
  have hu34 := Tryz.underlying34
  have HB := Aside0.mk (Below.refl w.heap.size w)
  have H : ((spec_Whole.f k a0).bind fun t210 => (some (0, 10, false, t210, ([] : List (S34))))) = some (r1, r2, r3, r4, r5) := h
  clear h
  replace H := Option.bind_eq_some_iff.mp H
  obtain ⟨t210, A20, H⟩ := H
  replace H : (some (0, 10, false, t210, ([] : List (S34)))) = some (r1, r2, r3, r4, r5) := H
  have A2 := Aside0.mk A20
  clear A20
  simp only [Option.some.injEq, Prod.mk.injEq] at H
  obtain ⟨rfl, rfl, rfl, rfl, rfl⟩ := H
  go_enter Tryz.func54, Tryz.ntmps54
  go_wp2_with (first | ((with_reducible refine gate_dst (N := 2) rfl ?_); refine box_event ?hg (N := 2) ?hd (cs := #[.int .i64 0, .int .i64 0, .bool false, .slice none 0 0, .slice none 0 0]) (t := 34) ?hr ?_; (case hd => rfl); (case hg => rfl); (case hr => first | (go_simp; done) | (go_simp; rfl)); intro gb209 hg w3 hbox hb; have n0_ := Aside0.mk (below_step (by repeat (first | (with_reducible first | exact HB.out | apply below_alloc | apply pw_below_drewN | apply below_drew1) | exact HB.out)) hb); have n1_ := Aside0.mk (hbox); have n2_ := Aside0.mk ((by rw [hg]; exact (below_size (by repeat (first | (with_reducible first | exact HB.out | apply below_alloc | apply pw_below_drewN | apply below_drew1) | exact HB.out))) : w.heap.size ≤ gb209)); have n3_ := Aside0.mk ((by rw [hg]; exact (below_size (by repeat (first | (with_reducible first | exact HB.out | apply below_alloc | apply pw_below_drewN | apply below_drew1) | exact HB.out))) : w.heap.size ≤ gb209)); clear HB; have HB := n0_; have BK209 := n1_; have GW209 := n2_; have GE209 := n3_; clear n0_ n1_ n2_ n3_; clear hb hbox hg) | ((with_reducible refine gate_callee (f := 65) rfl ?_); refine goesL_ (some 4) rfl rfl Tryz.func65 (by kernel_rfl) rfl #[.int .i64 a0] rfl (by (try simp only [List.map_toArray, List.map_cons, List.map_nil]); first | done | rfl | (simp only [List.length_drop, List.length_take]; rfl)) ?_; (with_reducible refine (spec_Whole.calls k a0 t210 _ A2.out).mono ?_); rintro e w4 ⟨v211, rfl, ho0, hb⟩; refine ⟨_, rfl, ?_⟩; have n0_ := Aside0.mk (Kd.R_lower ho0 (below_size (by repeat (first | (with_reducible first | exact HB.out | apply below_alloc | apply pw_below_drewN | apply below_drew1 | refine below_set ?_ GE209.out) | exact HB.out)))); have n1_ := Aside0.mk (blk_below (g := gb209) (o := .cells #[.int .i64 0, .int .i64 0, .bool false, .slice none 0 0, .slice none 0 0] 34 (0, 0)) (by (with_reducible repeat (first | refine blk_drewN ?_ _ | refine blk_drew ?_ | refine blk_alloc ?_ _)); exact BK209.out) hb); have n2_ := Aside0.mk (below_step (by repeat (first | (with_reducible first | exact HB.out | apply below_alloc | apply pw_below_drewN | apply below_drew1 | refine below_set ?_ GE209.out) | exact HB.out)) hb); clear BK209; clear HB; have HO212 := n0_; have BK209 := n1_; have HB := n2_; clear n0_ n1_ n2_; (try clear hb); (try clear hb2); (try clear hk); (try clear hi); (try clear ho0); obtain ⟨Ao5, co5, eo5⟩ := Kd.R_slice HO212.out; subst eo5; have hcz6_0 : w4.cell? ⟨gb209, 0, none⟩ = some (.int .i64 0) := (blk_cell BK209.out 0).trans rfl; have hcz6_1 : w4.cell? ⟨gb209, 1, none⟩ = some (.int .i64 0) := (blk_cell BK209.out 1).trans rfl; have hcz6_2 : w4.cell? ⟨gb209, 2, none⟩ = some (.bool false) := (blk_cell BK209.out 2).trans rfl; have hcz6_3 : w4.cell? ⟨gb209, 3, none⟩ = some (.slice none 0 0) := (blk_cell BK209.out 3).trans rfl; have hcz6_4 : w4.cell? ⟨gb209, 4, none⟩ = some (.slice none 0 0) := (blk_cell BK209.out 4).trans rfl; have hfz6_0 := blk_frozen BK209.out 0; have hfz6_1 := blk_frozen BK209.out 1; have hfz6_2 := blk_frozen BK209.out 2; have hfz6_3 := blk_frozen BK209.out 3; have hfz6_4 := blk_frozen BK209.out 4))
  refine bodyPost_ret (results_cell_row rfl _ _ gb209 34 #[.int .i64 0, .int .i64 10, .bool false, .slice Ao5 t210.length co5, .slice none 0 0] (0, 0) _ rfl (by (with_reducible repeat (first | refine blk_drewN ?_ _ | refine blk_drew ?_ | refine blk_alloc ?_ _)); refine blk_put (cs := #[.int .i64 0, .int .i64 10, .bool false, .slice Ao5 t210.length co5, .slice none 0 0]) ?_ 4 _ rfl; (with_reducible repeat (first | refine blk_drewN ?_ _ | refine blk_drew ?_ | refine blk_alloc ?_ _)); refine blk_put (cs := #[.int .i64 0, .int .i64 10, .bool false, .slice none 0 0, .slice none 0 0]) ?_ 3 _ rfl; (with_reducible repeat (first | refine blk_drewN ?_ _ | refine blk_drew ?_ | refine blk_alloc ?_ _)); refine blk_put (cs := #[.int .i64 0, .int .i64 10, .bool false, .slice none 0 0, .slice none 0 0]) ?_ 2 _ rfl; (with_reducible repeat (first | refine blk_drewN ?_ _ | refine blk_drew ?_ | refine blk_alloc ?_ _)); refine blk_put (cs := #[.int .i64 0, .int .i64 0, .bool false, .slice none 0 0, .slice none 0 0]) ?_ 1 _ rfl; (with_reducible repeat (first | refine blk_drewN ?_ _ | refine blk_drew ?_ | refine blk_alloc ?_ _)); refine blk_put (cs := #[.int .i64 0, .int .i64 0, .bool false, .slice none 0 0, .slice none 0 0]) ?_ 0 _ rfl; (with_reducible repeat (first | refine blk_drewN ?_ _ | refine blk_drew ?_ | refine blk_alloc ?_ _)); exact BK209.out) Tryz.underlying34 rfl (by kernel_rfl)) rfl ?_
  exact ⟨_, _, by first | rfl | (simp [errW_none, errW_some] <;> rfl) | (simp [*, errW_none, errW_some] <;> rfl), by (with_reducible repeat (first | apply Kd.R_alloc | apply Kd.R_drewN | apply Kd.R_drew)); exact Kd.R_mono (Kd.R_far (p := ⟨gb209, 4, none⟩) (Kd.R_far (p := ⟨gb209, 3, none⟩) (Kd.R_far (p := ⟨gb209, 2, none⟩) (Kd.R_far (p := ⟨gb209, 1, none⟩) (Kd.R_far (p := ⟨gb209, 0, none⟩) (Kd.R_types HO212.out BK209.out (by decide)) (fun _ hk => hk.2) (.int .i64 0)) (fun _ hk => hk.2) (.int .i64 10)) (fun _ hk => hk.2) (.bool false)) (fun _ hk => hk.2) (.slice Ao5 t210.length co5)) (fun _ hk => hk.2) (.slice none 0 0)) (fun _ hk => trivial), by first | exact Kd.R_nil _ _ _ _ _ | exact Kd.N_nil _ _ _ _ _ | exact Kd.V_nil _ _ _ _ _ | exact Kd.Q_nil _ _ _ _ _ | exact Kd.S_nil _ _ _ _ _, by repeat (first | (with_reducible first | exact HB.out | apply below_alloc | apply pw_below_drewN | apply below_drew1 | refine below_set ?_ GE209.out) | exact HB.out)⟩

-- NOT PRINTED: function 24 (spec_Result)

-- NOT PRINTED: function 12 (spec_Answer)

-- NOT PRINTED: function 3 (laws_FnAnswer)

/-! ### laws_zzFits15: function 13 -/
end Go.Proofs.YteockihoefbmdaaGreatDoor.PFnEncode
namespace Go.Proofs.YteockihoefbmdaaGreatDoor.Num
open Go.RowKit Go.Proofs.YteockihoefbmdaaGreatDoorW.PrintWords Go.Proofs.YteockihoefbmdaaGreatDoorW.PrintLast Go.Proofs.YteockihoefbmdaaGreatDoorW.PrintMore Go.Proofs.YteockihoefbmdaaGreatDoor.PFnEncode
set_option linter.unusedVariables false
set_option linter.unusedSimpArgs false

/-- the number of digits to the base 256, at least one -/
def nd (x : Nat) : Nat := if _h : x < 256 then 1 else nd (x / 256) + 1
termination_by x
decreasing_by omega

/-- m digits of a whole number to the base 256 (two's complement), the great one first -/
def be (x : Int) : Nat → List Int
  | 0 => []
  | m + 1 => (x / 256 ^ m % 256) :: be x m

theorem be_length (x : Int) (m : Nat) : (be x m).length = m := by
  induction m with
  | zero => rfl
  | succ m ih => simp [be, ih]

theorem be_snoc (x : Int) (m : Nat) : be x (m + 1) = be (x / 256) m ++ [x % 256] := by
  induction m with
  | zero => simp [be]
  | succ m ih =>
    rw [be, ih]
    show _ = ((x / 256) / 256 ^ m % 256) :: be (x / 256) m ++ _
    rw [Int.ediv_ediv_of_nonneg (by omega), show (256 : Int) * 256 ^ m = 256 ^ (m + 1) by rw [Int.pow_succ, Int.mul_comm]]
    rfl

theorem be_one (x : Int) : be x 1 = [x % 256] := by rw [be_snoc]; rfl

theorem be_range (x : Int) (m : Nat) : ∀ y ∈ be x m, 0 ≤ y ∧ y < 256 := by
  induction m with
  | zero => intro y hy; simp [be] at hy
  | succ m ih =>
    intro y hy
    rcases List.mem_cons.1 hy with rfl | hy
    · omega
    · exact ih y hy

theorem nd_small {x : Nat} (h : x < 256) : nd x = 1 := by rw [nd, dif_pos h]
theorem nd_great {x : Nat} (h : ¬ x < 256) : nd x = nd (x / 256) + 1 := by rw [nd, dif_neg h]

theorem nd_le : ∀ (k x : Nat), x < 256 ^ (k + 1) → nd x ≤ k + 1 := by
  intro k
  induction k with
  | zero => intro x h; rw [nd_small (by simpa using h)]; omega
  | succ k ih =>
    intro x h
    by_cases hx : x < 256
    · rw [nd_small hx]; omega
    · rw [nd_great hx]
      have := ih (x / 256) (by rw [Nat.div_lt_iff_lt_mul (by omega)]; rw [Nat.pow_succ] at h; exact h)
      omega

theorem nd_pos (x : Nat) : 1 ≤ nd x := by
  by_cases hx : x < 256
  · rw [nd_small hx]; omega
  · rw [nd_great hx]; omega

theorem ulen (k : Nat) : ∀ (x : Nat) (c : Int), x < 256 ^ (k + 1) → 0 ≤ c → c + k < 4611686018427387904 →
    asn1ber_uint64Length.l0 (k + 1) (x : Int) c = some (c + nd x - 1) := by
  induction k with
  | zero =>
    intro x c hx _ _
    have hx' : x < 256 := by simpa using hx
    unfold asn1ber_uint64Length.l0
    rw [if_neg (by omega), nd_small hx']
    congr 1; omega
  | succ k ih =>
    intro x c hx h0 hc
    unfold asn1ber_uint64Length.l0
    by_cases hs : x < 256
    · rw [if_neg (by omega), nd_small hs]
      congr 1; omega
    · rw [if_pos (by omega), nd_great hs]
      have e1 : wrap64 (c + 1) = c + 1 := by unfold wrap64; omega
      have e2 : (x : Int) / 256 = ((x / 256 : Nat) : Int) := by omega
      rw [e1, e2, ih (x / 256) (c + 1) (by rw [Nat.div_lt_iff_lt_mul (by omega)]; rw [Nat.pow_succ] at hx; exact hx) (by omega) (by omega)]
      congr 1; omega

theorem take_set_snoc (l : List Int) (j : Nat) (v : Int) (h : j < l.length) : (l.set j v).take (j + 1) = l.take j ++ [v] := by
  induction l generalizing j with
  | nil => simp at h
  | cons a l ih =>
    cases j with
    | zero => simp
    | succ j => simp only [List.set_cons_succ, List.take_succ_cons, List.cons_append]; rw [ih j (by simpa using h)]

theorem shr_at (k : IntKind) (hk : k.bits = 64) (x : Int) (m : Nat) (hm : m < 8) : (shr k x ((m : Int) * 8)) % 256 = x / 256 ^ m % 256 := by
  unfold shr
  rw [hk, show min ((m : Int) * 8).toNat 64 = 8 * m by omega, Int.pow_mul]
  rfl

theorem uenc (m : Nat) : ∀ (x : Int) (j : Nat) (out : List Int), m ≤ 8 → j + m ≤ 8 → out.length = j + m →
    asn1ber_encodeUnsignedInteger.l0 (m + 1) x (m : Int) out (j : Int) = some (out.take j ++ be x m) := by
  induction m with
  | zero =>
    intro x j out _ _ hl
    unfold asn1ber_encodeUnsignedInteger.l0
    rw [if_neg (by omega), List.take_of_length_le (by omega)]
    simp [be]
  | succ m ih =>
    intro x j out hm hj hl
    unfold asn1ber_encodeUnsignedInteger.l0
    have e1 : wrap64 (((m + 1 : Nat) : Int) - 1) = (m : Int) := by unfold wrap64; omega
    have e2 : wrap64 ((m : Int) * 8) = (m : Int) * 8 := by unfold wrap64; omega
    have e3 : IntKind.u64.wrap ((m : Int) * 8) = (m : Int) * 8 := IntWalk.u64_in _ (by omega)
    have e4 : wrap64 ((j : Int) + 1) = ((j + 1 : Nat) : Int) := by unfold wrap64; omega
    rw [e1, e2, e3, e4]
    rw [if_pos (show ((m + 1 : Nat) : Int) > 0 by omega), if_pos (show (0 : Int) ≤ (m : Int) * 8 by omega), if_pos (show (0 : Int) ≤ (j : Int) by omega), if_pos (show (j : Int) < (out.length : Int) by omega), shr_at .u64 rfl x m (by omega)]
    rw [Int.toNat_natCast, ih x (j + 1) (out.set j (x / 256 ^ m % 256)) (by omega) (by omega) (by rw [List.length_set]; omega)]
    rw [take_set_snoc _ _ _ (by omega)]
    simp [be]

theorem uint_enc (x : Nat) (hx : x < 256 ^ 8) (k : Nat) (hk : 9 ≤ k) : asn1ber_encodeUnsignedInteger.f k (x : Int) = some (be x (nd x)) := by
  have hn := nd_le 7 x hx
  have h1 : asn1ber_uint64Length.f 8 (x : Int) = some (nd x : Int) := by
    unfold asn1ber_uint64Length.f
    rw [ulen 7 x 1 hx (by omega) (by omega)]
    congr 1; omega
  have h1' := at_rounds (fun n => asn1ber_uint64Length.mono (x : Int) n) (show 8 ≤ k by omega) h1
  unfold asn1ber_encodeUnsignedInteger.f
  rw [h1']
  simp only [Option.bind_some]
  rw [if_pos (by omega), if_pos (by omega)]
  have h2 := uenc (nd x) x 0 (List.replicate (nd x) 0) hn (by omega) (by simp)
  have h2' := at_rounds (fun n => (asn1ber_encodeUnsignedInteger.mono_l n) (x : Int) (nd x : Int) (List.replicate (nd x) 0) 0) (show nd x + 1 ≤ k by omega) h2
  simp only [Int.toNat_natCast]
  rw [show (0 : Int) = ((0 : Nat) : Int) from rfl] at h2' ⊢
  rw [h2']; simp

/-- the bytes of a length -/
def lenBytes (n : Nat) : List Int := if n < 128 then [(n : Int)] else (128 + (nd n : Int)) :: be n (nd n)

theorem lenBytes_le (n : Nat) (h : n < 256 ^ 8) : (lenBytes n).length ≤ 9 := by
  unfold lenBytes
  have := nd_le 7 n h
  split
  · simp
  · simp [be_length]; omega

theorem or128 : ∀ n : Fin 9, Go.bits .or .u8 128 ((n : Nat) : Int) = 128 + ((n : Nat) : Int) := by decide +kernel

theorem enc_len (n : Nat) (hn : n < 256 ^ 7) : asn1ber_encodeLength.f 12 (n : Int) = some (lenBytes n) := by
  have h8 : n < 256 ^ 8 := by have : 256 ^ 7 ≤ 256 ^ 8 := Nat.pow_le_pow_right (by omega) (by omega); omega
  have hu : IntKind.u64.wrap (n : Int) = (n : Int) := IntWalk.u64_in _ (by simp at hn; omega)
  have hnd := nd_le 7 n h8
  have hp := nd_pos n
  unfold asn1ber_encodeLength.f lenBytes
  rw [hu, uint_enc n h8 12 (by omega)]
  simp only [Option.bind_some]
  by_cases hs : n < 128
  · rw [if_pos hs, if_neg (by omega), be_length, nd_small (by omega), if_neg (by omega), be_one]
    congr 1
    congr 1
    omega
  · rw [if_neg hs, if_pos (by omega), if_pos (by rw [be_length]; simp; omega), be_length]
    have e := or128 ⟨nd n, by omega⟩
    rw [show ((nd n : Nat) : Int) % 256 = (nd n : Int) by omega, e]
    rfl

theorem works_true : laws_works.f 12 = some true := by decide +kernel
theorem works_any (w : World) : Calls Tryz.prog 8 #[] w fun e w' => e = .returned (.bool true) ∧ Below w.heap.size w w' := laws_works.calls 12 true w works_true
theorem encLen_any (n : Nat) (h : n < 256 ^ 7) (w : World) : Calls Tryz.prog 103 #[.int .i64 (n : Int)] w fun e w' => ∃ v, e = .returned v ∧ (Kd.int .u8).R 5 w' w.heap.size (fun _ => True) v (lenBytes n) ∧ Below w.heap.size w w' :=
  asn1ber_encodeLength.calls 12 n _ w (enc_len n h)
end Go.Proofs.YteockihoefbmdaaGreatDoor.Num
