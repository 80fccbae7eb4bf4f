-- printed by a program out of the translation (wip/print_all.sh)
import Derived.Test.YtbmcpjkhnhbjdaaDoorProg
import Derived.Below
import Derived.Deep.Draws
import Derived.Deep.AppendLies
import Derived.Maps.AppendAt
import Derived.OwnWalk
import Derived.Laws.BytesArg
import Derived.Laws.MakeOwn
import Derived.Laws.OwnMore
import Derived.Deep.OwnRows
import Derived.Tactics
import Derived.Lib.ConvBytes
import Derived.Laws.Slices
import Derived.WalkKit
import Derived.KernelRfl
import Derived.RowKit3
import Derived.Deep.LoopGhost
import Derived.Deep.QuietTactic
import Derived.BigQuiet
import Derived.WideLaws
import Derived.Deep.DeepCutAuto
import Derived.Deep.CutBlock
import Derived.Deep.RegionHeld3
import Derived.Laws.Rows
import Derived.Lib.AppendStr
import Derived.ArgAppend
import Derived.Laws.IdiomCopy
import Derived.OrdersHeld
import Derived.Laws.BitsLemmas
import Derived.RowKit
import Derived.Test.YtbmcpjkhnhbjdaaDoorWWords
import Derived.Test.YtbmcpjkhnhbjdaaDoorWLast
import Derived.Test.YtbmcpjkhnhbjdaaDoorWTab
import Derived.Test.YtbmcpjkhnhbjdaaDoorWFour
import Derived.Test.YtbmcpjkhnhbjdaaDoorWQPut
import Derived.Test.YtbmcpjkhnhbjdaaDoorWApart
import Derived.Test.YtbmcpjkhnhbjdaaDoorWArr
import Derived.Test.YtbmcpjkhnhbjdaaDoorWZeros
import Derived.Test.YtbmcpjkhnhbjdaaDoorWFoot
import Derived.Test.YtbmcpjkhnhbjdaaDoorWKept
import Derived.Test.YtbmcpjkhnhbjdaaDoorWShare
import Derived.Test.YtbmcpjkhnhbjdaaDoorWN
import Derived.Test.YtbmcpjkhnhbjdaaDoorWFootNe
import Derived.Test.YtbmcpjkhnhbjdaaDoorWAt
import Derived.Test.YtbmcpjkhnhbjdaaDoorWEqStruct
import Derived.Test.YtbmcpjkhnhbjdaaDoorWRepsOne
import Derived.Test.YtbmcpjkhnhbjdaaDoorWInv
import Derived.Test.YtbmcpjkhnhbjdaaDoorWInvWords
import Derived.Test.YtbmcpjkhnhbjdaaDoorWGuard
import Derived.Test.YtbmcpjkhnhbjdaaDoorWNEv
import Derived.Test.YtbmcpjkhnhbjdaaDoorWMore
namespace Go.Proofs.YtbmcpjkhnhbjdaaDoor.PFnEncode
open Go.RowKit Go.Proofs.YtbmcpjkhnhbjdaaDoorW.PrintWords Go.Proofs.YtbmcpjkhnhbjdaaDoorW.PrintLast Go.Proofs.YtbmcpjkhnhbjdaaDoorW.PrintMore
attribute [local go_sem] max2_int min2_int max_two min_two max_three min_three max_four min_four   -- for this text's walks alone
set_option linter.unusedVariables false
set_option linter.unusedSimpArgs false



def errW : Option Int → Value
  | none => .nilIface
  | some c => .iface 0 (.int .i64 c)
theorem errW_none : errW none = .nilIface := rfl
theorem errW_some (c : Int) : errW (some c) = .iface 0 (.int .i64 c) := rfl

theorem info5 : (Tryd.prog.info? 5).map (fun i => (i.zero, i.size, i.bytes)) = some (some (.int .u8 0), 1, 1) := by kernel_rfl
theorem info9 : (Tryd.prog.info? 9).map (fun i => (i.zero, i.size, i.bytes)) = some (some (.string ⟨#[]⟩), 1, 16) := by kernel_rfl
theorem info58 : (Tryd.prog.info? 58).map (fun i => (i.zero, i.size, i.bytes)) = some (some (.agg #[(.string ⟨#[]⟩), (.slice none 0 0)]), 2, 40) := by kernel_rfl
-- the values' own types
def rd_L4 (xs : List (List Int)) (i : Int) : (List Int) := xs.getD i.toNat ([] : List Int)
theorem at_L4 {w : World} {A : Option Addr} {n : Nat} {xs : List (List Int)} (h : Kd.C (Kd.slice 5 (Kd.int .u8)) w A n xs) (i : Int) (h0 : 0 ≤ i) (h1 : i < n) : ∃ ad A0 c0, A = some ad ∧ w.cell? (ad.add i.toNat) = some (.slice A0 (rd_L4 xs i).length c0) ∧ (rd_L4 xs i).length ≤ c0 ∧ (Kd.int .u8).C w A0 (rd_L4 xs i).length (rd_L4 xs i) := by
  obtain ⟨ad, c, e, _, hK, hc0⟩ := Kd.C_get h ([] : List Int) i h0 h1
  have hc : ∀ j u, c[j]? = some u → w.cell? (ad.add (i.toNat * 1 + j)) = some u := hc0
  obtain ⟨A0, c0, rfl, l0, g0⟩ := hK
  exact ⟨ad, A0, c0, e, by have hq := hc 0 _ rfl; rwa [Nat.mul_one, Nat.add_zero] at hq, l0, g0⟩

/-! #### struct type 33, nested in itself -/
structure S33 where
  f0 : Int
  f1 : Int
  f2 : Bool
  f3 : (List Int)
  f4 : (List S33)
def z33 : S33 := ⟨(0 : Int), (0 : Int), false, ([] : List Int), ([] : List S33)⟩
def F33 (d : Kd S33) : Kd S33 := Kd.iso (Kd.pair (Kd.int .i64) (Kd.pair (Kd.int .i64) (Kd.pair Kd.bool (Kd.pair (Kd.slice 5 (Kd.int .u8)) (Kd.slice 33 d))))) (fun x : S33 => (x.f0, x.f1, x.f2, x.f3, x.f4))
theorem mono33 : Kd.Mono F33 := Kd.mono_iso _ (Kd.mono_pair (Kd.mono_const _) (Kd.mono_pair (Kd.mono_const _) (Kd.mono_pair (Kd.mono_const _) (Kd.mono_pair (Kd.mono_const _) (Kd.mono_slice 33 Kd.mono_id)))))
theorem sub33 : Kd.Sub F33 [5, 33] := Kd.sub_iso _ (Kd.sub_pair (Kd.sub_const _ (by decide)) (Kd.sub_pair (Kd.sub_const _ (by decide)) (Kd.sub_pair (Kd.sub_const _ (by decide)) (Kd.sub_pair (Kd.sub_const _ (by decide)) (Kd.sub_slice 33 (by decide) Kd.sub_id)))))
theorem sz33 : ∀ n, (Kd.upto F33 5 [5, 33] n).sz = 5 := Kd.upto_sz (fun _ => rfl)
def k33 : Kd S33 := Kd.fix F33 5 [5, 33] sz33 (Kd.upto_E sub33)
theorem k33_heap : Kd.Heap k33 := Kd.heap_fix (fun _ h_ => Kd.heap_iso _ (Kd.heap_pair (Kd.heap_int .i64) (Kd.heap_pair (Kd.heap_int .i64) (Kd.heap_pair Kd.heap_bool (Kd.heap_pair (Kd.heap_slice 5 (Kd.heap_int .u8)) (Kd.heap_slice 33 h_))))))
theorem k33_open {w : World} {x : S33} {cs : List Value} (h : k33.K w x cs) : ∃ A3 c3 A4 c4, cs = [.int .i64 x.f0, .int .i64 x.f1, .bool x.f2, .slice A3 x.f3.length c3, .slice A4 x.f4.length c4] ∧ x.f3.length ≤ c3 ∧ (Kd.int .u8).C w A3 x.f3.length x.f3 ∧ x.f4.length ≤ c4 ∧ k33.C w A4 x.f4.length x.f4 := by
  obtain ⟨n, h⟩ := h
  cases n with
  | zero => exact h.elim
  | succ n =>
    obtain ⟨_, _, rfl, rfl, ⟨_, _, rfl, rfl, ⟨_, _, rfl, rfl, ⟨_, _, rfl, ⟨A3, c3, rfl, l3, g3⟩, ⟨A4, c4, rfl, l4, g4⟩⟩⟩⟩⟩ := h
    exact ⟨A3, c3, A4, c4, rfl, l3, g3, l4, Kd.fix_C g4⟩
theorem k33_openM {w : World} {base : Nat} {ok : Nat → Prop} {x : S33} {cs : List Value} (h : k33.M w base ok x cs) : ∃ v3 v4, cs = [.int .i64 x.f0, .int .i64 x.f1, .bool x.f2, v3, v4] ∧ (Kd.int .u8).R 5 w base ok v3 x.f3 ∧ k33.R 33 w base ok v4 x.f4 := by
  obtain ⟨n, h⟩ := h
  cases n with
  | zero => exact h.elim
  | succ n =>
    obtain ⟨_, _, rfl, rfl, ⟨_, _, rfl, rfl, ⟨_, _, rfl, rfl, ⟨_, _, rfl, ⟨v3, rfl, g3⟩, ⟨v4, rfl, g4⟩⟩⟩⟩⟩ := h
    exact ⟨v3, v4, rfl, g3, Kd.fix_R g4⟩
theorem k33_mk (w : World) (x : S33) {A3 : Option Addr} {c3 : Nat} (l3 : x.f3.length ≤ c3) (g3 : (Kd.int .u8).C w A3 x.f3.length x.f3) {A4 : Option Addr} {c4 : Nat} (l4 : x.f4.length ≤ c4) (g4 : k33.C w A4 x.f4.length x.f4) : k33.K w x [.int .i64 x.f0, .int .i64 x.f1, .bool x.f2, .slice A3 x.f3.length c3, .slice A4 x.f4.length c4] := by
  obtain ⟨n4, q4⟩ := Kd.fix_C_back mono33 g4
  have r4 := Kd.upto_C_le mono33 sz33 (show n4 ≤ n4 by omega) q4
  exact ⟨n4 + 1, ⟨[.int .i64 x.f0], [.int .i64 x.f1, .bool x.f2, .slice A3 x.f3.length c3, .slice A4 x.f4.length c4], rfl, rfl, ⟨[.int .i64 x.f1], [.bool x.f2, .slice A3 x.f3.length c3, .slice A4 x.f4.length c4], rfl, rfl, ⟨[.bool x.f2], [.slice A3 x.f3.length c3, .slice A4 x.f4.length c4], rfl, rfl, ⟨[.slice A3 x.f3.length c3], [.slice A4 x.f4.length c4], rfl, ⟨A3, c3, rfl, l3, g3⟩, ⟨A4, c4, rfl, l4, r4⟩⟩⟩⟩⟩⟩
theorem k33_mkM (w : World) (base : Nat) (ok : Nat → Prop) (x : S33) {v3 : Value} (g3 : (Kd.int .u8).R 5 w base ok v3 x.f3) {v4 : Value} (g4 : k33.R 33 w base ok v4 x.f4) : k33.M w base ok x [.int .i64 x.f0, .int .i64 x.f1, .bool x.f2, v3, v4] := by
  obtain ⟨n4, q4⟩ := Kd.fix_R_back mono33 g4
  have r4 := Kd.upto_R_le mono33 sz33 (show n4 ≤ n4 by omega) q4
  exact ⟨n4 + 1, ⟨[.int .i64 x.f0], [.int .i64 x.f1, .bool x.f2, v3, v4], rfl, rfl, ⟨[.int .i64 x.f1], [.bool x.f2, v3, v4], rfl, rfl, ⟨[.bool x.f2], [v3, v4], rfl, rfl, ⟨[v3], [v4], rfl, ⟨v3, rfl, g3⟩, ⟨v4, rfl, r4⟩⟩⟩⟩⟩⟩
theorem k33_openF {W : World} {ok : Nat → Prop} {x : S33} {cs : List Value} (h : Kd.FK k33 W ok x cs) : ∃ A3 c3 A4 c4, cs = [.int .i64 x.f0, .int .i64 x.f1, .bool x.f2, .slice A3 x.f3.length c3, .slice A4 x.f4.length c4] ∧ x.f3.length ≤ c3 ∧ Kd.F (Kd.int .u8) W ok A3 x.f3.length x.f3 ∧ x.f4.length ≤ c4 ∧ Kd.F k33 W ok A4 x.f4.length x.f4 := by
  obtain ⟨A3, c3, A4, c4, rfl, l3, _, l4, _⟩ := k33_open (Kd.FK_now h)
  exact ⟨A3, c3, A4, c4, rfl, l3, (fun W' hW => by obtain ⟨A3_, c3_, A4_, c4_, he, l3_, g3_, l4_, g4_⟩ := k33_open (h W' hW); injection (Option.some.inj (show some (Value.slice A3 x.f3.length c3) = some (Value.slice A3_ x.f3.length c3_) from congrArg (fun l => l[3]?) he)) with ha_ _ _; rw [ha_]; exact g3_), l4, (fun W' hW => by obtain ⟨A3_, c3_, A4_, c4_, he, l3_, g3_, l4_, g4_⟩ := k33_open (h W' hW); injection (Option.some.inj (show some (Value.slice A4 x.f4.length c4) = some (Value.slice A4_ x.f4.length c4_) from congrArg (fun l => l[4]?) he)) with ha_ _ _; rw [ha_]; exact g4_)⟩
theorem k33_mkF (W : World) (ok : Nat → Prop) (x : S33) {A3 : Option Addr} {c3 : Nat} (l3 : x.f3.length ≤ c3) (g3 : Kd.F (Kd.int .u8) W ok A3 x.f3.length x.f3) {A4 : Option Addr} {c4 : Nat} (l4 : x.f4.length ≤ c4) (g4 : Kd.F k33 W ok A4 x.f4.length x.f4) : Kd.FK k33 W ok x [.int .i64 x.f0, .int .i64 x.f1, .bool x.f2, .slice A3 x.f3.length c3, .slice A4 x.f4.length c4] := fun W2 hW => k33_mk W2 x l3 (g3 W2 hW) l4 (g4 W2 hW)
def rd_T33 (xs : List S33) (i : Int) : S33 := xs.getD i.toNat z33
theorem at_T33 {w : World} {A : Option Addr} {n : Nat} {xs : List S33} (h : Kd.C k33 w A n xs) (i : Int) (h0 : 0 ≤ i) (h1 : i < n) : ∃ ad A3 c3 A4 c4, A = some ad ∧ w.cell? (ad.add (i.toNat * 5)) = some (.int .i64 (rd_T33 xs i).f0) ∧ w.cell? ⟨(ad.add (i.toNat * 5)).block, (ad.add (i.toNat * 5)).off + 1, none⟩ = some (.int .i64 (rd_T33 xs i).f1) ∧ w.cell? ⟨(ad.add (i.toNat * 5)).block, (ad.add (i.toNat * 5)).off + 2, none⟩ = some (.bool (rd_T33 xs i).f2) ∧ w.cell? ⟨(ad.add (i.toNat * 5)).block, (ad.add (i.toNat * 5)).off + 3, none⟩ = some (.slice A3 (rd_T33 xs i).f3.length c3) ∧ w.cell? ⟨(ad.add (i.toNat * 5)).block, (ad.add (i.toNat * 5)).off + 4, none⟩ = some (.slice A4 (rd_T33 xs i).f4.length c4) ∧ (rd_T33 xs i).f3.length ≤ c3 ∧ (Kd.int .u8).C w A3 (rd_T33 xs i).f3.length (rd_T33 xs i).f3 ∧ (rd_T33 xs i).f4.length ≤ c4 ∧ k33.C w A4 (rd_T33 xs i).f4.length (rd_T33 xs i).f4 := by
  obtain ⟨ad, c, e, _, hK, hc0⟩ := Kd.C_get h z33 i h0 h1
  have hc : ∀ j u, c[j]? = some u → w.cell? (ad.add (i.toNat * 5 + j)) = some u := hc0
  obtain ⟨A3, c3, A4, c4, rfl, l3, g3, l4, g4⟩ := k33_open hK
  exact ⟨ad, A3, c3, A4, c4, e, hc 0 _ rfl, by rw [← add_field _ _ 1 (by omega)]; exact hc 1 _ rfl, by rw [← add_field _ _ 2 (by omega)]; exact hc 2 _ rfl, by rw [← add_field _ _ 3 (by omega)]; exact hc 3 _ rfl, by rw [← add_field _ _ 4 (by omega)]; exact hc 4 _ rfl, l3, g3, l4, g4⟩

def rd_L6 (xs : List (List (List Int))) (i : Int) : (List (List Int)) := xs.getD i.toNat ([] : List (List Int))
theorem at_L6 {w : World} {A : Option Addr} {n : Nat} {xs : List (List (List Int))} (h : Kd.C (Kd.slice 24 (Kd.slice 5 (Kd.int .u8))) w A n xs) (i : Int) (h0 : 0 ≤ i) (h1 : i < n) : ∃ ad A0 c0, A = some ad ∧ w.cell? (ad.add i.toNat) = some (.slice A0 (rd_L6 xs i).length c0) ∧ (rd_L6 xs i).length ≤ c0 ∧ (Kd.slice 5 (Kd.int .u8)).C w A0 (rd_L6 xs i).length (rd_L6 xs i) := by
  obtain ⟨ad, c, e, _, hK, hc0⟩ := Kd.C_get h ([] : List (List Int)) i h0 h1
  have hc : ∀ j u, c[j]? = some u → w.cell? (ad.add (i.toNat * 1 + j)) = some u := hc0
  obtain ⟨A0, c0, rfl, l0, g0⟩ := hK
  exact ⟨ad, A0, c0, e, by have hq := hc 0 _ rfl; rwa [Nat.mul_one, Nat.add_zero] at hq, l0, g0⟩

/-! #### struct type 49 -/
structure S49 where
  f0 : ByteArray
  f1 : (List (List Int))
def z49 : S49 := ⟨(⟨#[]⟩ : ByteArray), ([] : List (List Int))⟩
def k49 : Kd S49 := Kd.iso (Kd.pair Kd.string (Kd.slice 24 (Kd.slice 5 (Kd.int .u8)))) (fun x : S49 => (x.f0, x.f1))
theorem k49_heap : Kd.Heap k49 := Kd.heap_iso _ (Kd.heap_pair Kd.heap_string (Kd.heap_slice 24 (Kd.heap_slice 5 (Kd.heap_int .u8))))
theorem k49_open {w : World} {x : S49} {cs : List Value} (h : k49.K w x cs) : ∃ A1 c1, cs = [.string x.f0, .slice A1 x.f1.length c1] ∧ x.f1.length ≤ c1 ∧ (Kd.slice 5 (Kd.int .u8)).C w A1 x.f1.length x.f1 := by
  obtain ⟨_, _, rfl, rfl, ⟨A1, c1, rfl, l1, g1⟩⟩ := h
  exact ⟨A1, c1, rfl, l1, g1⟩
theorem k49_openM {w : World} {base : Nat} {ok : Nat → Prop} {x : S49} {cs : List Value} (h : k49.M w base ok x cs) : ∃ v1, cs = [.string x.f0, v1] ∧ (Kd.slice 5 (Kd.int .u8)).R 24 w base ok v1 x.f1 := by
  obtain ⟨_, _, rfl, rfl, ⟨v1, rfl, g1⟩⟩ := h
  exact ⟨v1, rfl, g1⟩
theorem k49_mk (w : World) (x : S49) {A1 : Option Addr} {c1 : Nat} (l1 : x.f1.length ≤ c1) (g1 : (Kd.slice 5 (Kd.int .u8)).C w A1 x.f1.length x.f1) : k49.K w x [.string x.f0, .slice A1 x.f1.length c1] := ⟨[.string x.f0], [.slice A1 x.f1.length c1], rfl, rfl, ⟨A1, c1, rfl, l1, g1⟩⟩
theorem k49_mkM (w : World) (base : Nat) (ok : Nat → Prop) (x : S49) {v1 : Value} (g1 : (Kd.slice 5 (Kd.int .u8)).R 24 w base ok v1 x.f1) : k49.M w base ok x [.string x.f0, v1] := ⟨[.string x.f0], [v1], rfl, rfl, ⟨v1, rfl, g1⟩⟩
theorem k49_openF {W : World} {ok : Nat → Prop} {x : S49} {cs : List Value} (h : Kd.FK k49 W ok x cs) : ∃ A1 c1, cs = [.string x.f0, .slice A1 x.f1.length c1] ∧ x.f1.length ≤ c1 ∧ Kd.F (Kd.slice 5 (Kd.int .u8)) W ok A1 x.f1.length x.f1 := by
  obtain ⟨A1, c1, rfl, l1, _⟩ := k49_open (Kd.FK_now h)
  exact ⟨A1, c1, rfl, l1, (fun W' hW => by obtain ⟨A1_, c1_, he, l1_, g1_⟩ := k49_open (h W' hW); injection (Option.some.inj (show some (Value.slice A1 x.f1.length c1) = some (Value.slice A1_ x.f1.length c1_) from congrArg (fun l => l[1]?) he)) with ha_ _ _; rw [ha_]; exact g1_)⟩
theorem k49_mkF (W : World) (ok : Nat → Prop) (x : S49) {A1 : Option Addr} {c1 : Nat} (l1 : x.f1.length ≤ c1) (g1 : Kd.F (Kd.slice 5 (Kd.int .u8)) W ok A1 x.f1.length x.f1) : Kd.FK k49 W ok x [.string x.f0, .slice A1 x.f1.length c1] := fun W2 hW => k49_mk W2 x l1 (g1 W2 hW)
def rd_T49 (xs : List S49) (i : Int) : S49 := xs.getD i.toNat z49
theorem at_T49 {w : World} {A : Option Addr} {n : Nat} {xs : List S49} (h : Kd.C k49 w A n xs) (i : Int) (h0 : 0 ≤ i) (h1 : i < n) : ∃ ad A1 c1, A = some ad ∧ w.cell? (ad.add (i.toNat * 2)) = some (.string (rd_T49 xs i).f0) ∧ w.cell? ⟨(ad.add (i.toNat * 2)).block, (ad.add (i.toNat * 2)).off + 1, none⟩ = some (.slice A1 (rd_T49 xs i).f1.length c1) ∧ (rd_T49 xs i).f1.length ≤ c1 ∧ (Kd.slice 5 (Kd.int .u8)).C w A1 (rd_T49 xs i).f1.length (rd_T49 xs i).f1 := by
  obtain ⟨ad, c, e, _, hK, hc0⟩ := Kd.C_get h z49 i h0 h1
  have hc : ∀ j u, c[j]? = some u → w.cell? (ad.add (i.toNat * 2 + j)) = some u := hc0
  obtain ⟨A1, c1, rfl, l1, g1⟩ := k49_open hK
  exact ⟨ad, A1, c1, e, hc 0 _ rfl, by rw [← add_field _ _ 1 (by omega)]; exact hc 1 _ rfl, l1, g1⟩

/-! #### struct type 51 -/
structure S51 where
  f0 : Int
  f1 : S49
def z51 : S51 := ⟨(0 : Int), z49⟩
def k51 : Kd S51 := Kd.iso (Kd.pair (Kd.int .i64) k49) (fun x : S51 => (x.f0, x.f1))
theorem k51_heap : Kd.Heap k51 := Kd.heap_iso _ (Kd.heap_pair (Kd.heap_int .i64) k49_heap)
theorem k51_open {w : World} {x : S51} {cs : List Value} (h : k51.K w x cs) : ∃ A2 c2, cs = [.int .i64 x.f0, .string x.f1.f0, .slice A2 x.f1.f1.length c2] ∧ x.f1.f1.length ≤ c2 ∧ (Kd.slice 5 (Kd.int .u8)).C w A2 x.f1.f1.length x.f1.f1 := by
  obtain ⟨_, _, rfl, rfl, s1⟩ := h
  obtain ⟨A2, c2, rfl, l2, g2⟩ := k49_open s1
  exact ⟨A2, c2, rfl, l2, g2⟩
theorem k51_openM {w : World} {base : Nat} {ok : Nat → Prop} {x : S51} {cs : List Value} (h : k51.M w base ok x cs) : ∃ v2, cs = [.int .i64 x.f0, .string x.f1.f0, v2] ∧ (Kd.slice 5 (Kd.int .u8)).R 24 w base ok v2 x.f1.f1 := by
  obtain ⟨_, _, rfl, rfl, s1⟩ := h
  obtain ⟨v2, rfl, g2⟩ := k49_openM s1
  exact ⟨v2, rfl, g2⟩
theorem k51_mk (w : World) (x : S51) {A2 : Option Addr} {c2 : Nat} (l2 : x.f1.f1.length ≤ c2) (g2 : (Kd.slice 5 (Kd.int .u8)).C w A2 x.f1.f1.length x.f1.f1) : k51.K w x [.int .i64 x.f0, .string x.f1.f0, .slice A2 x.f1.f1.length c2] := ⟨[.int .i64 x.f0], [.string x.f1.f0, .slice A2 x.f1.f1.length c2], rfl, rfl, (k49_mk w x.f1 l2 g2)⟩
theorem k51_mkM (w : World) (base : Nat) (ok : Nat → Prop) (x : S51) {v2 : Value} (g2 : (Kd.slice 5 (Kd.int .u8)).R 24 w base ok v2 x.f1.f1) : k51.M w base ok x [.int .i64 x.f0, .string x.f1.f0, v2] := ⟨[.int .i64 x.f0], [.string x.f1.f0, v2], rfl, rfl, (k49_mkM w base ok x.f1 g2)⟩
theorem k51_openF {W : World} {ok : Nat → Prop} {x : S51} {cs : List Value} (h : Kd.FK k51 W ok x cs) : ∃ A2 c2, cs = [.int .i64 x.f0, .string x.f1.f0, .slice A2 x.f1.f1.length c2] ∧ x.f1.f1.length ≤ c2 ∧ Kd.F (Kd.slice 5 (Kd.int .u8)) W ok A2 x.f1.f1.length x.f1.f1 := by
  obtain ⟨A2, c2, rfl, l2, _⟩ := k51_open (Kd.FK_now h)
  exact ⟨A2, c2, rfl, l2, (fun W' hW => by obtain ⟨A2_, c2_, he, l2_, g2_⟩ := k51_open (h W' hW); injection (Option.some.inj (show some (Value.slice A2 x.f1.f1.length c2) = some (Value.slice A2_ x.f1.f1.length c2_) from congrArg (fun l => l[2]?) he)) with ha_ _ _; rw [ha_]; exact g2_)⟩
theorem k51_mkF (W : World) (ok : Nat → Prop) (x : S51) {A2 : Option Addr} {c2 : Nat} (l2 : x.f1.f1.length ≤ c2) (g2 : Kd.F (Kd.slice 5 (Kd.int .u8)) W ok A2 x.f1.f1.length x.f1.f1) : Kd.FK k51 W ok x [.int .i64 x.f0, .string x.f1.f0, .slice A2 x.f1.f1.length c2] := fun W2 hW => k51_mk W2 x l2 (g2 W2 hW)
def rd_T51 (xs : List S51) (i : Int) : S51 := xs.getD i.toNat z51
theorem at_T51 {w : World} {A : Option Addr} {n : Nat} {xs : List S51} (h : Kd.C k51 w A n xs) (i : Int) (h0 : 0 ≤ i) (h1 : i < n) : ∃ ad A2 c2, A = some ad ∧ w.cell? (ad.add (i.toNat * 3)) = some (.int .i64 (rd_T51 xs i).f0) ∧ w.cell? ⟨(ad.add (i.toNat * 3)).block, (ad.add (i.toNat * 3)).off + 1, none⟩ = some (.string (rd_T51 xs i).f1.f0) ∧ w.cell? ⟨(ad.add (i.toNat * 3)).block, (ad.add (i.toNat * 3)).off + 2, none⟩ = some (.slice A2 (rd_T51 xs i).f1.f1.length c2) ∧ (rd_T51 xs i).f1.f1.length ≤ c2 ∧ (Kd.slice 5 (Kd.int .u8)).C w A2 (rd_T51 xs i).f1.f1.length (rd_T51 xs i).f1.f1 := by
  obtain ⟨ad, c, e, _, hK, hc0⟩ := Kd.C_get h z51 i h0 h1
  have hc : ∀ j u, c[j]? = some u → w.cell? (ad.add (i.toNat * 3 + j)) = some u := hc0
  obtain ⟨A2, c2, rfl, l2, g2⟩ := k51_open hK
  exact ⟨ad, A2, c2, e, hc 0 _ rfl, by rw [← add_field _ _ 1 (by omega)]; exact hc 1 _ rfl, by rw [← add_field _ _ 2 (by omega)]; exact hc 2 _ rfl, l2, g2⟩

def rd_L9 (xs : List (List ByteArray)) (i : Int) : (List ByteArray) := xs.getD i.toNat ([] : List ByteArray)
theorem at_L9 {w : World} {A : Option Addr} {n : Nat} {xs : List (List ByteArray)} (h : Kd.C (Kd.slice 9 Kd.string) w A n xs) (i : Int) (h0 : 0 ≤ i) (h1 : i < n) : ∃ ad A0 c0, A = some ad ∧ w.cell? (ad.add i.toNat) = some (.slice A0 (rd_L9 xs i).length c0) ∧ (rd_L9 xs i).length ≤ c0 ∧ Kd.string.C w A0 (rd_L9 xs i).length (rd_L9 xs i) := by
  obtain ⟨ad, c, e, _, hK, hc0⟩ := Kd.C_get h ([] : List ByteArray) i h0 h1
  have hc : ∀ j u, c[j]? = some u → w.cell? (ad.add (i.toNat * 1 + j)) = some u := hc0
  obtain ⟨A0, c0, rfl, l0, g0⟩ := hK
  exact ⟨ad, A0, c0, e, by have hq := hc 0 _ rfl; rwa [Nat.mul_one, Nat.add_zero] at hq, l0, g0⟩

/-! #### struct type 58 -/
structure S58 where
  f0 : ByteArray
  f1 : (List ByteArray)
def z58 : S58 := ⟨(⟨#[]⟩ : ByteArray), ([] : List ByteArray)⟩
def k58 : Kd S58 := Kd.iso (Kd.pair Kd.string (Kd.slice 9 Kd.string)) (fun x : S58 => (x.f0, x.f1))
theorem k58_heap : Kd.Heap k58 := Kd.heap_iso _ (Kd.heap_pair Kd.heap_string (Kd.heap_slice 9 Kd.heap_string))
theorem k58_open {w : World} {x : S58} {cs : List Value} (h : k58.K w x cs) : ∃ A1 c1, cs = [.string x.f0, .slice A1 x.f1.length c1] ∧ x.f1.length ≤ c1 ∧ Kd.string.C w A1 x.f1.length x.f1 := by
  obtain ⟨_, _, rfl, rfl, ⟨A1, c1, rfl, l1, g1⟩⟩ := h
  exact ⟨A1, c1, rfl, l1, g1⟩
theorem k58_openM {w : World} {base : Nat} {ok : Nat → Prop} {x : S58} {cs : List Value} (h : k58.M w base ok x cs) : ∃ v1, cs = [.string x.f0, v1] ∧ Kd.string.R 9 w base ok v1 x.f1 := by
  obtain ⟨_, _, rfl, rfl, ⟨v1, rfl, g1⟩⟩ := h
  exact ⟨v1, rfl, g1⟩
theorem k58_mk (w : World) (x : S58) {A1 : Option Addr} {c1 : Nat} (l1 : x.f1.length ≤ c1) (g1 : Kd.string.C w A1 x.f1.length x.f1) : k58.K w x [.string x.f0, .slice A1 x.f1.length c1] := ⟨[.string x.f0], [.slice A1 x.f1.length c1], rfl, rfl, ⟨A1, c1, rfl, l1, g1⟩⟩
theorem k58_mkM (w : World) (base : Nat) (ok : Nat → Prop) (x : S58) {v1 : Value} (g1 : Kd.string.R 9 w base ok v1 x.f1) : k58.M w base ok x [.string x.f0, v1] := ⟨[.string x.f0], [v1], rfl, rfl, ⟨v1, rfl, g1⟩⟩
theorem k58_openF {W : World} {ok : Nat → Prop} {x : S58} {cs : List Value} (h : Kd.FK k58 W ok x cs) : ∃ A1 c1, cs = [.string x.f0, .slice A1 x.f1.length c1] ∧ x.f1.length ≤ c1 ∧ Kd.F Kd.string W ok A1 x.f1.length x.f1 := by
  obtain ⟨A1, c1, rfl, l1, _⟩ := k58_open (Kd.FK_now h)
  exact ⟨A1, c1, rfl, l1, (fun W' hW => by obtain ⟨A1_, c1_, he, l1_, g1_⟩ := k58_open (h W' hW); injection (Option.some.inj (show some (Value.slice A1 x.f1.length c1) = some (Value.slice A1_ x.f1.length c1_) from congrArg (fun l => l[1]?) he)) with ha_ _ _; rw [ha_]; exact g1_)⟩
theorem k58_mkF (W : World) (ok : Nat → Prop) (x : S58) {A1 : Option Addr} {c1 : Nat} (l1 : x.f1.length ≤ c1) (g1 : Kd.F Kd.string W ok A1 x.f1.length x.f1) : Kd.FK k58 W ok x [.string x.f0, .slice A1 x.f1.length c1] := fun W2 hW => k58_mk W2 x l1 (g1 W2 hW)
def rd_T58 (xs : List S58) (i : Int) : S58 := xs.getD i.toNat z58
theorem at_T58 {w : World} {A : Option Addr} {n : Nat} {xs : List S58} (h : Kd.C k58 w A n xs) (i : Int) (h0 : 0 ≤ i) (h1 : i < n) : ∃ ad A1 c1, A = some ad ∧ w.cell? (ad.add (i.toNat * 2)) = some (.string (rd_T58 xs i).f0) ∧ w.cell? ⟨(ad.add (i.toNat * 2)).block, (ad.add (i.toNat * 2)).off + 1, none⟩ = some (.slice A1 (rd_T58 xs i).f1.length c1) ∧ (rd_T58 xs i).f1.length ≤ c1 ∧ Kd.string.C w A1 (rd_T58 xs i).f1.length (rd_T58 xs i).f1 := by
  obtain ⟨ad, c, e, _, hK, hc0⟩ := Kd.C_get h z58 i h0 h1
  have hc : ∀ j u, c[j]? = some u → w.cell? (ad.add (i.toNat * 2 + j)) = some u := hc0
  obtain ⟨A1, c1, rfl, l1, g1⟩ := k58_open hK
  exact ⟨ad, A1, c1, e, hc 0 _ rfl, by rw [← add_field _ _ 1 (by omega)]; exact hc 1 _ rfl, l1, g1⟩

/-! #### struct type 60 -/
structure S60 where
  f0 : Int
  f1 : S58
def z60 : S60 := ⟨(0 : Int), z58⟩
def k60 : Kd S60 := Kd.iso (Kd.pair (Kd.int .i64) k58) (fun x : S60 => (x.f0, x.f1))
theorem k60_heap : Kd.Heap k60 := Kd.heap_iso _ (Kd.heap_pair (Kd.heap_int .i64) k58_heap)
theorem k60_open {w : World} {x : S60} {cs : List Value} (h : k60.K w x cs) : ∃ A2 c2, cs = [.int .i64 x.f0, .string x.f1.f0, .slice A2 x.f1.f1.length c2] ∧ x.f1.f1.length ≤ c2 ∧ Kd.string.C w A2 x.f1.f1.length x.f1.f1 := by
  obtain ⟨_, _, rfl, rfl, s1⟩ := h
  obtain ⟨A2, c2, rfl, l2, g2⟩ := k58_open s1
  exact ⟨A2, c2, rfl, l2, g2⟩
theorem k60_openM {w : World} {base : Nat} {ok : Nat → Prop} {x : S60} {cs : List Value} (h : k60.M w base ok x cs) : ∃ v2, cs = [.int .i64 x.f0, .string x.f1.f0, v2] ∧ Kd.string.R 9 w base ok v2 x.f1.f1 := by
  obtain ⟨_, _, rfl, rfl, s1⟩ := h
  obtain ⟨v2, rfl, g2⟩ := k58_openM s1
  exact ⟨v2, rfl, g2⟩
theorem k60_mk (w : World) (x : S60) {A2 : Option Addr} {c2 : Nat} (l2 : x.f1.f1.length ≤ c2) (g2 : Kd.string.C w A2 x.f1.f1.length x.f1.f1) : k60.K w x [.int .i64 x.f0, .string x.f1.f0, .slice A2 x.f1.f1.length c2] := ⟨[.int .i64 x.f0], [.string x.f1.f0, .slice A2 x.f1.f1.length c2], rfl, rfl, (k58_mk w x.f1 l2 g2)⟩
theorem k60_mkM (w : World) (base : Nat) (ok : Nat → Prop) (x : S60) {v2 : Value} (g2 : Kd.string.R 9 w base ok v2 x.f1.f1) : k60.M w base ok x [.int .i64 x.f0, .string x.f1.f0, v2] := ⟨[.int .i64 x.f0], [.string x.f1.f0, v2], rfl, rfl, (k58_mkM w base ok x.f1 g2)⟩
theorem k60_openF {W : World} {ok : Nat → Prop} {x : S60} {cs : List Value} (h : Kd.FK k60 W ok x cs) : ∃ A2 c2, cs = [.int .i64 x.f0, .string x.f1.f0, .slice A2 x.f1.f1.length c2] ∧ x.f1.f1.length ≤ c2 ∧ Kd.F Kd.string W ok A2 x.f1.f1.length x.f1.f1 := by
  obtain ⟨A2, c2, rfl, l2, _⟩ := k60_open (Kd.FK_now h)
  exact ⟨A2, c2, rfl, l2, (fun W' hW => by obtain ⟨A2_, c2_, he, l2_, g2_⟩ := k60_open (h W' hW); injection (Option.some.inj (show some (Value.slice A2 x.f1.f1.length c2) = some (Value.slice A2_ x.f1.f1.length c2_) from congrArg (fun l => l[2]?) he)) with ha_ _ _; rw [ha_]; exact g2_)⟩
theorem k60_mkF (W : World) (ok : Nat → Prop) (x : S60) {A2 : Option Addr} {c2 : Nat} (l2 : x.f1.f1.length ≤ c2) (g2 : Kd.F Kd.string W ok A2 x.f1.f1.length x.f1.f1) : Kd.FK k60 W ok x [.int .i64 x.f0, .string x.f1.f0, .slice A2 x.f1.f1.length c2] := fun W2 hW => k60_mk W2 x l2 (g2 W2 hW)
def rd_T60 (xs : List S60) (i : Int) : S60 := xs.getD i.toNat z60
theorem at_T60 {w : World} {A : Option Addr} {n : Nat} {xs : List S60} (h : Kd.C k60 w A n xs) (i : Int) (h0 : 0 ≤ i) (h1 : i < n) : ∃ ad A2 c2, A = some ad ∧ w.cell? (ad.add (i.toNat * 3)) = some (.int .i64 (rd_T60 xs i).f0) ∧ w.cell? ⟨(ad.add (i.toNat * 3)).block, (ad.add (i.toNat * 3)).off + 1, none⟩ = some (.string (rd_T60 xs i).f1.f0) ∧ w.cell? ⟨(ad.add (i.toNat * 3)).block, (ad.add (i.toNat * 3)).off + 2, none⟩ = some (.slice A2 (rd_T60 xs i).f1.f1.length c2) ∧ (rd_T60 xs i).f1.f1.length ≤ c2 ∧ Kd.string.C w A2 (rd_T60 xs i).f1.f1.length (rd_T60 xs i).f1.f1 := by
  obtain ⟨ad, c, e, _, hK, hc0⟩ := Kd.C_get h z60 i h0 h1
  have hc : ∀ j u, c[j]? = some u → w.cell? (ad.add (i.toNat * 3 + j)) = some u := hc0
  obtain ⟨A2, c2, rfl, l2, g2⟩ := k60_open hK
  exact ⟨ad, A2, c2, e, hc 0 _ rfl, by rw [← add_field _ _ 1 (by omega)]; exact hc 1 _ rfl, by rw [← add_field _ _ 2 (by omega)]; exact hc 2 _ rfl, l2, g2⟩

/-! #### struct type 27, nested in itself -/
structure S27 where
  f0 : Int
  f1 : Int
  f2 : Bool
  f3 : (List Int)
  f4 : (List S27)
def z27 : S27 := ⟨(0 : Int), (0 : Int), false, ([] : List Int), ([] : List S27)⟩
def F27 (d : Kd S27) : Kd S27 := Kd.iso (Kd.pair (Kd.int .i64) (Kd.pair (Kd.int .i64) (Kd.pair Kd.bool (Kd.pair (Kd.slice 5 (Kd.int .u8)) (Kd.slice 27 d))))) (fun x : S27 => (x.f0, x.f1, x.f2, x.f3, x.f4))
theorem mono27 : Kd.Mono F27 := Kd.mono_iso _ (Kd.mono_pair (Kd.mono_const _) (Kd.mono_pair (Kd.mono_const _) (Kd.mono_pair (Kd.mono_const _) (Kd.mono_pair (Kd.mono_const _) (Kd.mono_slice 27 Kd.mono_id)))))
theorem sub27 : Kd.Sub F27 [5, 27] := Kd.sub_iso _ (Kd.sub_pair (Kd.sub_const _ (by decide)) (Kd.sub_pair (Kd.sub_const _ (by decide)) (Kd.sub_pair (Kd.sub_const _ (by decide)) (Kd.sub_pair (Kd.sub_const _ (by decide)) (Kd.sub_slice 27 (by decide) Kd.sub_id)))))
theorem sz27 : ∀ n, (Kd.upto F27 5 [5, 27] n).sz = 5 := Kd.upto_sz (fun _ => rfl)
def k27 : Kd S27 := Kd.fix F27 5 [5, 27] sz27 (Kd.upto_E sub27)
theorem k27_heap : Kd.Heap k27 := Kd.heap_fix (fun _ h_ => Kd.heap_iso _ (Kd.heap_pair (Kd.heap_int .i64) (Kd.heap_pair (Kd.heap_int .i64) (Kd.heap_pair Kd.heap_bool (Kd.heap_pair (Kd.heap_slice 5 (Kd.heap_int .u8)) (Kd.heap_slice 27 h_))))))
theorem k27_open {w : World} {x : S27} {cs : List Value} (h : k27.K w x cs) : ∃ A3 c3 A4 c4, cs = [.int .i64 x.f0, .int .i64 x.f1, .bool x.f2, .slice A3 x.f3.length c3, .slice A4 x.f4.length c4] ∧ x.f3.length ≤ c3 ∧ (Kd.int .u8).C w A3 x.f3.length x.f3 ∧ x.f4.length ≤ c4 ∧ k27.C w A4 x.f4.length x.f4 := by
  obtain ⟨n, h⟩ := h
  cases n with
  | zero => exact h.elim
  | succ n =>
    obtain ⟨_, _, rfl, rfl, ⟨_, _, rfl, rfl, ⟨_, _, rfl, rfl, ⟨_, _, rfl, ⟨A3, c3, rfl, l3, g3⟩, ⟨A4, c4, rfl, l4, g4⟩⟩⟩⟩⟩ := h
    exact ⟨A3, c3, A4, c4, rfl, l3, g3, l4, Kd.fix_C g4⟩
theorem k27_openM {w : World} {base : Nat} {ok : Nat → Prop} {x : S27} {cs : List Value} (h : k27.M w base ok x cs) : ∃ v3 v4, cs = [.int .i64 x.f0, .int .i64 x.f1, .bool x.f2, v3, v4] ∧ (Kd.int .u8).R 5 w base ok v3 x.f3 ∧ k27.R 27 w base ok v4 x.f4 := by
  obtain ⟨n, h⟩ := h
  cases n with
  | zero => exact h.elim
  | succ n =>
    obtain ⟨_, _, rfl, rfl, ⟨_, _, rfl, rfl, ⟨_, _, rfl, rfl, ⟨_, _, rfl, ⟨v3, rfl, g3⟩, ⟨v4, rfl, g4⟩⟩⟩⟩⟩ := h
    exact ⟨v3, v4, rfl, g3, Kd.fix_R g4⟩
theorem k27_mk (w : World) (x : S27) {A3 : Option Addr} {c3 : Nat} (l3 : x.f3.length ≤ c3) (g3 : (Kd.int .u8).C w A3 x.f3.length x.f3) {A4 : Option Addr} {c4 : Nat} (l4 : x.f4.length ≤ c4) (g4 : k27.C w A4 x.f4.length x.f4) : k27.K w x [.int .i64 x.f0, .int .i64 x.f1, .bool x.f2, .slice A3 x.f3.length c3, .slice A4 x.f4.length c4] := by
  obtain ⟨n4, q4⟩ := Kd.fix_C_back mono27 g4
  have r4 := Kd.upto_C_le mono27 sz27 (show n4 ≤ n4 by omega) q4
  exact ⟨n4 + 1, ⟨[.int .i64 x.f0], [.int .i64 x.f1, .bool x.f2, .slice A3 x.f3.length c3, .slice A4 x.f4.length c4], rfl, rfl, ⟨[.int .i64 x.f1], [.bool x.f2, .slice A3 x.f3.length c3, .slice A4 x.f4.length c4], rfl, rfl, ⟨[.bool x.f2], [.slice A3 x.f3.length c3, .slice A4 x.f4.length c4], rfl, rfl, ⟨[.slice A3 x.f3.length c3], [.slice A4 x.f4.length c4], rfl, ⟨A3, c3, rfl, l3, g3⟩, ⟨A4, c4, rfl, l4, r4⟩⟩⟩⟩⟩⟩
theorem k27_mkM (w : World) (base : Nat) (ok : Nat → Prop) (x : S27) {v3 : Value} (g3 : (Kd.int .u8).R 5 w base ok v3 x.f3) {v4 : Value} (g4 : k27.R 27 w base ok v4 x.f4) : k27.M w base ok x [.int .i64 x.f0, .int .i64 x.f1, .bool x.f2, v3, v4] := by
  obtain ⟨n4, q4⟩ := Kd.fix_R_back mono27 g4
  have r4 := Kd.upto_R_le mono27 sz27 (show n4 ≤ n4 by omega) q4
  exact ⟨n4 + 1, ⟨[.int .i64 x.f0], [.int .i64 x.f1, .bool x.f2, v3, v4], rfl, rfl, ⟨[.int .i64 x.f1], [.bool x.f2, v3, v4], rfl, rfl, ⟨[.bool x.f2], [v3, v4], rfl, rfl, ⟨[v3], [v4], rfl, ⟨v3, rfl, g3⟩, ⟨v4, rfl, r4⟩⟩⟩⟩⟩⟩
theorem k27_openF {W : World} {ok : Nat → Prop} {x : S27} {cs : List Value} (h : Kd.FK k27 W ok x cs) : ∃ A3 c3 A4 c4, cs = [.int .i64 x.f0, .int .i64 x.f1, .bool x.f2, .slice A3 x.f3.length c3, .slice A4 x.f4.length c4] ∧ x.f3.length ≤ c3 ∧ Kd.F (Kd.int .u8) W ok A3 x.f3.length x.f3 ∧ x.f4.length ≤ c4 ∧ Kd.F k27 W ok A4 x.f4.length x.f4 := by
  obtain ⟨A3, c3, A4, c4, rfl, l3, _, l4, _⟩ := k27_open (Kd.FK_now h)
  exact ⟨A3, c3, A4, c4, rfl, l3, (fun W' hW => by obtain ⟨A3_, c3_, A4_, c4_, he, l3_, g3_, l4_, g4_⟩ := k27_open (h W' hW); injection (Option.some.inj (show some (Value.slice A3 x.f3.length c3) = some (Value.slice A3_ x.f3.length c3_) from congrArg (fun l => l[3]?) he)) with ha_ _ _; rw [ha_]; exact g3_), l4, (fun W' hW => by obtain ⟨A3_, c3_, A4_, c4_, he, l3_, g3_, l4_, g4_⟩ := k27_open (h W' hW); injection (Option.some.inj (show some (Value.slice A4 x.f4.length c4) = some (Value.slice A4_ x.f4.length c4_) from congrArg (fun l => l[4]?) he)) with ha_ _ _; rw [ha_]; exact g4_)⟩
theorem k27_mkF (W : World) (ok : Nat → Prop) (x : S27) {A3 : Option Addr} {c3 : Nat} (l3 : x.f3.length ≤ c3) (g3 : Kd.F (Kd.int .u8) W ok A3 x.f3.length x.f3) {A4 : Option Addr} {c4 : Nat} (l4 : x.f4.length ≤ c4) (g4 : Kd.F k27 W ok A4 x.f4.length x.f4) : Kd.FK k27 W ok x [.int .i64 x.f0, .int .i64 x.f1, .bool x.f2, .slice A3 x.f3.length c3, .slice A4 x.f4.length c4] := fun W2 hW => k27_mk W2 x l3 (g3 W2 hW) l4 (g4 W2 hW)
def rd_T27 (xs : List S27) (i : Int) : S27 := xs.getD i.toNat z27
theorem at_T27 {w : World} {A : Option Addr} {n : Nat} {xs : List S27} (h : Kd.C k27 w A n xs) (i : Int) (h0 : 0 ≤ i) (h1 : i < n) : ∃ ad A3 c3 A4 c4, A = some ad ∧ w.cell? (ad.add (i.toNat * 5)) = some (.int .i64 (rd_T27 xs i).f0) ∧ w.cell? ⟨(ad.add (i.toNat * 5)).block, (ad.add (i.toNat * 5)).off + 1, none⟩ = some (.int .i64 (rd_T27 xs i).f1) ∧ w.cell? ⟨(ad.add (i.toNat * 5)).block, (ad.add (i.toNat * 5)).off + 2, none⟩ = some (.bool (rd_T27 xs i).f2) ∧ w.cell? ⟨(ad.add (i.toNat * 5)).block, (ad.add (i.toNat * 5)).off + 3, none⟩ = some (.slice A3 (rd_T27 xs i).f3.length c3) ∧ w.cell? ⟨(ad.add (i.toNat * 5)).block, (ad.add (i.toNat * 5)).off + 4, none⟩ = some (.slice A4 (rd_T27 xs i).f4.length c4) ∧ (rd_T27 xs i).f3.length ≤ c3 ∧ (Kd.int .u8).C w A3 (rd_T27 xs i).f3.length (rd_T27 xs i).f3 ∧ (rd_T27 xs i).f4.length ≤ c4 ∧ k27.C w A4 (rd_T27 xs i).f4.length (rd_T27 xs i).f4 := by
  obtain ⟨ad, c, e, _, hK, hc0⟩ := Kd.C_get h z27 i h0 h1
  have hc : ∀ j u, c[j]? = some u → w.cell? (ad.add (i.toNat * 5 + j)) = some u := hc0
  obtain ⟨A3, c3, A4, c4, rfl, l3, g3, l4, g4⟩ := k27_open hK
  exact ⟨ad, A3, c3, A4, c4, e, hc 0 _ rfl, by rw [← add_field _ _ 1 (by omega)]; exact hc 1 _ rfl, by rw [← add_field _ _ 2 (by omega)]; exact hc 2 _ rfl, by rw [← add_field _ _ 3 (by omega)]; exact hc 3 _ rfl, by rw [← add_field _ _ 4 (by omega)]; exact hc 4 _ rfl, l3, g3, l4, g4⟩

/-! #### struct type 79 -/
structure S79 where
  f0 : Int
  f1 : ByteArray
  f2 : Bool
  f3 : (List Int)
  f4 : Int
  f5 : (List Int)
def z79 : S79 := ⟨(0 : Int), (⟨#[]⟩ : ByteArray), false, ([] : List Int), (0 : Int), ([] : List Int)⟩
def k79 : Kd S79 := Kd.iso (Kd.pair (Kd.int .i64) (Kd.pair Kd.string (Kd.pair Kd.bool (Kd.pair (Kd.slice 5 (Kd.int .u8)) (Kd.pair (Kd.int .i64) (Kd.slice 5 (Kd.int .u8))))))) (fun x : S79 => (x.f0, x.f1, x.f2, x.f3, x.f4, x.f5))
theorem k79_heap : Kd.Heap k79 := Kd.heap_iso _ (Kd.heap_pair (Kd.heap_int .i64) (Kd.heap_pair Kd.heap_string (Kd.heap_pair Kd.heap_bool (Kd.heap_pair (Kd.heap_slice 5 (Kd.heap_int .u8)) (Kd.heap_pair (Kd.heap_int .i64) (Kd.heap_slice 5 (Kd.heap_int .u8)))))))
theorem k79_open {w : World} {x : S79} {cs : List Value} (h : k79.K w x cs) : ∃ A3 c3 A5 c5, cs = [.int .i64 x.f0, .string x.f1, .bool x.f2, .slice A3 x.f3.length c3, .int .i64 x.f4, .slice A5 x.f5.length c5] ∧ x.f3.length ≤ c3 ∧ (Kd.int .u8).C w A3 x.f3.length x.f3 ∧ x.f5.length ≤ c5 ∧ (Kd.int .u8).C w A5 x.f5.length x.f5 := by
  obtain ⟨_, _, rfl, rfl, ⟨_, _, rfl, rfl, ⟨_, _, rfl, rfl, ⟨_, _, rfl, ⟨A3, c3, rfl, l3, g3⟩, ⟨_, _, rfl, rfl, ⟨A5, c5, rfl, l5, g5⟩⟩⟩⟩⟩⟩ := h
  exact ⟨A3, c3, A5, c5, rfl, l3, g3, l5, g5⟩
theorem k79_openM {w : World} {base : Nat} {ok : Nat → Prop} {x : S79} {cs : List Value} (h : k79.M w base ok x cs) : ∃ v3 v5, cs = [.int .i64 x.f0, .string x.f1, .bool x.f2, v3, .int .i64 x.f4, v5] ∧ (Kd.int .u8).R 5 w base ok v3 x.f3 ∧ (Kd.int .u8).R 5 w base ok v5 x.f5 := by
  obtain ⟨_, _, rfl, rfl, ⟨_, _, rfl, rfl, ⟨_, _, rfl, rfl, ⟨_, _, rfl, ⟨v3, rfl, g3⟩, ⟨_, _, rfl, rfl, ⟨v5, rfl, g5⟩⟩⟩⟩⟩⟩ := h
  exact ⟨v3, v5, rfl, g3, g5⟩
theorem k79_mk (w : World) (x : S79) {A3 : Option Addr} {c3 : Nat} (l3 : x.f3.length ≤ c3) (g3 : (Kd.int .u8).C w A3 x.f3.length x.f3) {A5 : Option Addr} {c5 : Nat} (l5 : x.f5.length ≤ c5) (g5 : (Kd.int .u8).C w A5 x.f5.length x.f5) : k79.K w x [.int .i64 x.f0, .string x.f1, .bool x.f2, .slice A3 x.f3.length c3, .int .i64 x.f4, .slice A5 x.f5.length c5] := ⟨[.int .i64 x.f0], [.string x.f1, .bool x.f2, .slice A3 x.f3.length c3, .int .i64 x.f4, .slice A5 x.f5.length c5], rfl, rfl, ⟨[.string x.f1], [.bool x.f2, .slice A3 x.f3.length c3, .int .i64 x.f4, .slice A5 x.f5.length c5], rfl, rfl, ⟨[.bool x.f2], [.slice A3 x.f3.length c3, .int .i64 x.f4, .slice A5 x.f5.length c5], rfl, rfl, ⟨[.slice A3 x.f3.length c3], [.int .i64 x.f4, .slice A5 x.f5.length c5], rfl, ⟨A3, c3, rfl, l3, g3⟩, ⟨[.int .i64 x.f4], [.slice A5 x.f5.length c5], rfl, rfl, ⟨A5, c5, rfl, l5, g5⟩⟩⟩⟩⟩⟩
theorem k79_mkM (w : World) (base : Nat) (ok : Nat → Prop) (x : S79) {v3 : Value} (g3 : (Kd.int .u8).R 5 w base ok v3 x.f3) {v5 : Value} (g5 : (Kd.int .u8).R 5 w base ok v5 x.f5) : k79.M w base ok x [.int .i64 x.f0, .string x.f1, .bool x.f2, v3, .int .i64 x.f4, v5] := ⟨[.int .i64 x.f0], [.string x.f1, .bool x.f2, v3, .int .i64 x.f4, v5], rfl, rfl, ⟨[.string x.f1], [.bool x.f2, v3, .int .i64 x.f4, v5], rfl, rfl, ⟨[.bool x.f2], [v3, .int .i64 x.f4, v5], rfl, rfl, ⟨[v3], [.int .i64 x.f4, v5], rfl, ⟨v3, rfl, g3⟩, ⟨[.int .i64 x.f4], [v5], rfl, rfl, ⟨v5, rfl, g5⟩⟩⟩⟩⟩⟩
theorem k79_openF {W : World} {ok : Nat → Prop} {x : S79} {cs : List Value} (h : Kd.FK k79 W ok x cs) : ∃ A3 c3 A5 c5, cs = [.int .i64 x.f0, .string x.f1, .bool x.f2, .slice A3 x.f3.length c3, .int .i64 x.f4, .slice A5 x.f5.length c5] ∧ x.f3.length ≤ c3 ∧ Kd.F (Kd.int .u8) W ok A3 x.f3.length x.f3 ∧ x.f5.length ≤ c5 ∧ Kd.F (Kd.int .u8) W ok A5 x.f5.length x.f5 := by
  obtain ⟨A3, c3, A5, c5, rfl, l3, _, l5, _⟩ := k79_open (Kd.FK_now h)
  exact ⟨A3, c3, A5, c5, rfl, l3, (fun W' hW => by obtain ⟨A3_, c3_, A5_, c5_, he, l3_, g3_, l5_, g5_⟩ := k79_open (h W' hW); injection (Option.some.inj (show some (Value.slice A3 x.f3.length c3) = some (Value.slice A3_ x.f3.length c3_) from congrArg (fun l => l[3]?) he)) with ha_ _ _; rw [ha_]; exact g3_), l5, (fun W' hW => by obtain ⟨A3_, c3_, A5_, c5_, he, l3_, g3_, l5_, g5_⟩ := k79_open (h W' hW); injection (Option.some.inj (show some (Value.slice A5 x.f5.length c5) = some (Value.slice A5_ x.f5.length c5_) from congrArg (fun l => l[5]?) he)) with ha_ _ _; rw [ha_]; exact g5_)⟩
theorem k79_mkF (W : World) (ok : Nat → Prop) (x : S79) {A3 : Option Addr} {c3 : Nat} (l3 : x.f3.length ≤ c3) (g3 : Kd.F (Kd.int .u8) W ok A3 x.f3.length x.f3) {A5 : Option Addr} {c5 : Nat} (l5 : x.f5.length ≤ c5) (g5 : Kd.F (Kd.int .u8) W ok A5 x.f5.length x.f5) : Kd.FK k79 W ok x [.int .i64 x.f0, .string x.f1, .bool x.f2, .slice A3 x.f3.length c3, .int .i64 x.f4, .slice A5 x.f5.length c5] := fun W2 hW => k79_mk W2 x l3 (g3 W2 hW) l5 (g5 W2 hW)
def rd_T79 (xs : List S79) (i : Int) : S79 := xs.getD i.toNat z79
theorem at_T79 {w : World} {A : Option Addr} {n : Nat} {xs : List S79} (h : Kd.C k79 w A n xs) (i : Int) (h0 : 0 ≤ i) (h1 : i < n) : ∃ ad A3 c3 A5 c5, A = some ad ∧ w.cell? (ad.add (i.toNat * 6)) = some (.int .i64 (rd_T79 xs i).f0) ∧ w.cell? ⟨(ad.add (i.toNat * 6)).block, (ad.add (i.toNat * 6)).off + 1, none⟩ = some (.string (rd_T79 xs i).f1) ∧ w.cell? ⟨(ad.add (i.toNat * 6)).block, (ad.add (i.toNat * 6)).off + 2, none⟩ = some (.bool (rd_T79 xs i).f2) ∧ w.cell? ⟨(ad.add (i.toNat * 6)).block, (ad.add (i.toNat * 6)).off + 3, none⟩ = some (.slice A3 (rd_T79 xs i).f3.length c3) ∧ w.cell? ⟨(ad.add (i.toNat * 6)).block, (ad.add (i.toNat * 6)).off + 4, none⟩ = some (.int .i64 (rd_T79 xs i).f4) ∧ w.cell? ⟨(ad.add (i.toNat * 6)).block, (ad.add (i.toNat * 6)).off + 5, none⟩ = some (.slice A5 (rd_T79 xs i).f5.length c5) ∧ (rd_T79 xs i).f3.length ≤ c3 ∧ (Kd.int .u8).C w A3 (rd_T79 xs i).f3.length (rd_T79 xs i).f3 ∧ (rd_T79 xs i).f5.length ≤ c5 ∧ (Kd.int .u8).C w A5 (rd_T79 xs i).f5.length (rd_T79 xs i).f5 := by
  obtain ⟨ad, c, e, _, hK, hc0⟩ := Kd.C_get h z79 i h0 h1
  have hc : ∀ j u, c[j]? = some u → w.cell? (ad.add (i.toNat * 6 + j)) = some u := hc0
  obtain ⟨A3, c3, A5, c5, rfl, l3, g3, l5, g5⟩ := k79_open hK
  exact ⟨ad, A3, c3, A5, c5, e, hc 0 _ rfl, by rw [← add_field _ _ 1 (by omega)]; exact hc 1 _ rfl, by rw [← add_field _ _ 2 (by omega)]; exact hc 2 _ rfl, by rw [← add_field _ _ 3 (by omega)]; exact hc 3 _ rfl, by rw [← add_field _ _ 4 (by omega)]; exact hc 4 _ rfl, by rw [← add_field _ _ 5 (by omega)]; exact hc 5 _ rfl, l3, g3, l5, g5⟩

end Go.Proofs.YtbmcpjkhnhbjdaaDoor.PFnEncode
