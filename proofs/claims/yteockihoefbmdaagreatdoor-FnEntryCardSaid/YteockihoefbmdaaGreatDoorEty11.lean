/- Parts of the proof of one law, in the order in which they build. (*bytes.Buffer).Read as a reader. · A *bytes.Buffer is a reader; bytes.NewBuffer. · ber.DecodePacketErr over the whole bytes of a packet. · impl.built and impl.Encode: data as a packet of the package, and its bytes. · impl.read: the package's packet of data, as a packet that was decoded. · Reading a packet that was decoded: its children, and what stands in them. · The reference's builders of packets: spec.Octets, List, tagged, operation, Truth, Number leave a packet that reads as the tree, in blocks from b on. Strings are at most as long as Go's own limit. · A row of packets that grows: its cells are the call's own, what the packets lead to is only read. · laws.plain: a packet of the reference as one of the package's. · A packet of the reference that grows: 'p.Kids = append(p.Kids, k)'; spec.Group and spec.Code. -/
import Derived.Handy
import Derived.Deep.RegionLaw
import Derived.Deep.DrawnRows
import Derived.Test.YteockihoefbmdaaGreatDoorProg
import Derived.Below
import Derived.Deep.Draws
import Derived.Deep.AppendLies
import Derived.Maps.AppendAt
import Derived.OwnWalk
import Derived.Laws.BytesArg
import Derived.Laws.MakeOwn
import Derived.Laws.OwnMore
import Derived.Deep.OwnRows
import Derived.Tactics
import Derived.Lib.ConvBytes
import Derived.Laws.Slices
import Derived.WalkKit
import Derived.KernelRfl
import Derived.RowKit3
import Derived.Deep.LoopGhost
import Derived.Deep.QuietTactic
import Derived.BigQuiet
import Derived.WideLaws
import Derived.Deep.DeepCutAuto
import Derived.Deep.CutBlock
import Derived.Deep.RegionHeld3
import Derived.Laws.Rows
import Derived.Lib.AppendStr
import Derived.ArgAppend
import Derived.Laws.IdiomCopy
import Derived.OrdersHeld
import Derived.Laws.BitsLemmas
import Derived.RowKit
import Derived.Test.YteockihoefbmdaaGreatDoorEty1
import Derived.Test.YteockihoefbmdaaGreatDoorEty2
import Derived.Test.YteockihoefbmdaaGreatDoorEty3
import Derived.Test.YteockihoefbmdaaGreatDoorEty4
import Derived.Test.YteockihoefbmdaaGreatDoorEty5
import Derived.Test.YteockihoefbmdaaGreatDoorEty6
import Derived.Test.YteockihoefbmdaaGreatDoorEty7
import Derived.Test.YteockihoefbmdaaGreatDoorEty8
import Derived.Test.YteockihoefbmdaaGreatDoorEty9
import Derived.Test.YteockihoefbmdaaGreatDoorEty10
namespace Go.Proofs.YteockihoefbmdaaGreatDoor.Ber
open Go.RowKit Go.Proofs.YteockihoefbmdaaGreatDoorW.PrintWords Go.Proofs.YteockihoefbmdaaGreatDoorW.PrintLast Go.Proofs.YteockihoefbmdaaGreatDoor.Buf Go.Proofs.YteockihoefbmdaaGreatDoor.Pk
set_option linter.unusedVariables false
set_option linter.unusedSimpArgs false
/-- a *bytes.Buffer in block g: i of its bytes are read -/
structure AtBf (W : World) (g : Nat) (A : Option Addr) (c i : Nat) (data : List Int) : Prop where
  hb : ∃ lr, W.heap[g]? = some (.cells #[.slice A data.length c, .int .i64 i, .int .i8 lr] 134 (0, 0))
  rd : B8.C W A data.length data
  le : i ≤ data.length
  cap : data.length ≤ c
  big : c ≤ 9223372036854775807
  far : ∀ a, A = some a → 1 ≤ data.length → a.block ≠ g
set_option maxHeartbeats 3200000 in
set_option maxRecDepth 100000 in
theorem bf_empty {W : World} {g : Nat} {A : Option Addr} {n c i : Nat} {lr : Int} (hb : W.heap[g]? = some (.cells #[.slice A n c, .int .i64 i, .int .i8 lr] 134 (0, 0))) (hn : n ≤ 9223372036854775807) (hi : i ≤ 9223372036854775807) (r : Bool) (hr : decide (n ≤ i) = r) :
    Calls Tryz.prog 195 #[.pointer (some ⟨g, 0, none⟩)] W fun e w' => e = .returned (.bool r) ∧ w' = W.drew := by
  have c0 : W.drew.cell? ⟨g, 0, none⟩ = some (.slice A n c) := blk_cell hb 0
  have c1 : W.drew.cell? ⟨g, 1, none⟩ = some (.int .i64 i) := blk_cell hb 1
  have e1 : decide ((n : Int) ≤ (i : Int)) = r := by rw [← hr]; exact decide_eq_decide.2 (by omega)
  clear hb
  go_enter Tryz.func195, Tryz.ntmps195
  go_wp2_with fail
  refine start_ (n := 11) (S := fun w' => w'.cell? ⟨g, 0, none⟩ = some (.slice A n c) ∧ w'.cell? ⟨g, 1, none⟩ = some (.int .i64 i)) (ds := []) #[nN,nN,nN,nN,nN,nN,nN,nN,nN,nN,nN] (by kernel_rfl) rfl rfl ⟨c0, c1⟩ (fun hHeld => ?_)
  refine pure_ (i := 0) (N := some 3) (v := ?_) (a' := ?_) #[yY,nN,nN,nN,nN,nN,nN,nN,nN,nN,nN] rfl rfl (by kernel_rfl) (fun _ _ _ h => h) (Or.inl ⟨by rfl, ?_⟩) ?_ ?_
  rotate_left
  · intro w'
    go_simp
    with_reducible rfl
  rotate_left
  · simp only [Act.put, List.setIfInBounds_toArray, List.set_cons_zero, List.set_cons_succ, i64_w, i32_w]
    rfl
  refine pure_ (i := 1) (N := some 4) (v := ?_) (a' := ?_) #[yY,yY,nN,nN,nN,nN,nN,nN,nN,nN,nN] rfl rfl (by kernel_rfl) (fun _ _ _ h => h) (Or.inl ⟨by rfl, ?_⟩) ?_ ?_
  rotate_left
  · intro w'
    go_simp
    with_reducible rfl
  rotate_left
  · simp only [Act.put, List.setIfInBounds_toArray, List.set_cons_zero, List.set_cons_succ, i64_w, i32_w]
    rfl
  refine pure_ (i := 2) (N := some 5) (v := ?_) (a' := ?_) #[yY,yY,yY,nN,nN,nN,nN,nN,nN,nN,nN] rfl rfl (by kernel_rfl) (fun _ _ _ h => h) (Or.inl ⟨by rfl, ?_⟩) ?_ ?_
  rotate_left
  · intro w'
    go_simp
    with_reducible rfl
  rotate_left
  · simp only [Act.put, List.setIfInBounds_toArray, List.set_cons_zero, List.set_cons_succ, i64_w, i32_w]
    rfl
  refine pure_ (i := 5) (N := some 8) (v := ?_) (a' := ?_) #[yY,yY,yY,nN,nN,yY,nN,nN,nN,nN,nN] rfl rfl (by kernel_rfl) (fun _ _ _ h => h) (Or.inl ⟨by rfl, ?_⟩) ?_ ?_
  rotate_left
  · intro w'
    go_simp
    with_reducible rfl
  rotate_left
  · simp only [Act.put, List.setIfInBounds_toArray, List.set_cons_zero, List.set_cons_succ, i64_w, i32_w]
    rfl
  refine pure_ (i := 6) (N := some 9) (v := ?_) (a' := ?_) #[yY,yY,yY,nN,nN,yY,yY,nN,nN,nN,nN] rfl rfl (by kernel_rfl) (fun _ _ _ h => h) (Or.inl ⟨by rfl, ?_⟩) ?_ ?_
  rotate_left
  · intro w'
    go_simp
    with_reducible rfl
  rotate_left
  · simp only [Act.put, List.setIfInBounds_toArray, List.set_cons_zero, List.set_cons_succ, i64_w, i32_w]
    rfl
  refine pure_ (i := 7) (N := some 10) (v := ?_) (a' := ?_) #[yY,yY,yY,nN,nN,yY,yY,yY,nN,nN,nN] rfl rfl (by kernel_rfl) (fun _ _ _ h => h) (Or.inl ⟨by rfl, ?_⟩) ?_ ?_
  rotate_left
  · intro w'
    go_simp
    with_reducible rfl
  rotate_left
  · simp only [Act.put, List.setIfInBounds_toArray, List.set_cons_zero, List.set_cons_succ, i64_w, i32_w]
    rfl
  refine take_ (i := 3) (N := some 6) (v := ?_) (a' := ?_) #[yY,yY,yY,yY,nN,yY,yY,yY,nN,nN,nN] rfl rfl (by kernel_rfl) (fun _ _ _ h => h) (Or.inl ⟨by rfl, ?_⟩) hHeld ?_ ?_
  rotate_left
  · rintro w' ⟨s0, s1⟩
    go_simp
    with_reducible rfl
  rotate_left
  · simp only [Act.put, List.setIfInBounds_toArray, List.set_cons_zero, List.set_cons_succ, i64_w, i32_w]
    rfl
  refine pure_ (i := 4) (N := some 7) (v := ?_) (a' := ?_) #[yY,yY,yY,yY,yY,yY,yY,yY,nN,nN,nN] rfl rfl (by kernel_rfl) (fun _ _ _ h => h) (Or.inl ⟨by rfl, ?_⟩) ?_ ?_
  rotate_left
  · intro w'
    go_simp
    with_reducible rfl
  rotate_left
  · simp only [Act.put, List.setIfInBounds_toArray, List.set_cons_zero, List.set_cons_succ, i64_w, i32_w]
    rfl
  refine take_ (i := 8) (N := some 11) (v := ?_) (a' := ?_) #[yY,yY,yY,yY,yY,yY,yY,yY,yY,nN,nN] rfl rfl (by kernel_rfl) (fun _ _ _ h => h) (Or.inl ⟨by rfl, ?_⟩) hHeld ?_ ?_
  rotate_left
  · rintro w' ⟨s0, s1⟩
    go_simp
    with_reducible rfl
  rotate_left
  · simp only [Act.put, List.setIfInBounds_toArray, List.set_cons_zero, List.set_cons_succ, i64_w, i32_w]
    rfl
  refine pure_ (i := 9) (N := some 12) (v := ?_) (a' := ?_) #[yY,yY,yY,yY,yY,yY,yY,yY,yY,yY,nN] rfl rfl (by kernel_rfl) (fun _ _ _ h => h) (Or.inl ⟨by rfl, ?_⟩) ?_ ?_
  rotate_left
  · intro w'
    go_simp
    with_reducible rfl
  rotate_left
  · simp only [Act.put, List.setIfInBounds_toArray, List.set_cons_zero, List.set_cons_succ, i64_w, i32_w]
    rfl
  refine pure_ (i := 10) (N := some 2) (v := ?_) (a' := ?_) #[yY,yY,yY,yY,yY,yY,yY,yY,yY,yY,yY] rfl rfl (by kernel_rfl) (fun _ _ _ h => h) (Or.inl ⟨by rfl, ?_⟩) ?_ ?_
  rotate_left
  · intro w'
    go_simp
    with_reducible rfl
  rotate_left
  · simp only [Act.put, List.setIfInBounds_toArray, List.set_cons_zero, List.set_cons_succ, i64_w, i32_w]
    rfl
  refine done_ (by kernel_rfl) ?_
  go_wp2
  go_ret
  exact ⟨by first | rfl | simp [hr] | simp [e1], rfl⟩
set_option maxHeartbeats 3200000 in
set_option maxRecDepth 100000 in
theorem bf_reset {W : World} {g : Nat} {A : Option Addr} {n c i : Nat} {lr : Int} (hb : W.heap[g]? = some (.cells #[.slice A n c, .int .i64 i, .int .i8 lr] 134 (0, 0))) (hn : n ≤ c) (hc : c ≤ 9223372036854775807) :
    Calls Tryz.prog 114 #[.pointer (some ⟨g, 0, none⟩)] W fun e w' => e = .returned (.tuple #[]) ∧ (∃ A', w'.heap[g]? = some (.cells #[.slice A' 0 c, .int .i64 0, .int .i8 0] 134 (0, 0))) ∧ Only (fun b => b = g) W w' := by
  have c0 : W.cell? ⟨g, 0, none⟩ = some (.slice A n c) := blk_cell hb 0
  have c1 : W.cell? ⟨g, 1, none⟩ = some (.int .i64 i) := blk_cell hb 1
  have c2 : W.cell? ⟨g, 2, none⟩ = some (.int .i8 lr) := blk_cell hb 2
  have f0 : W.frozen? ⟨g, 0, none⟩ = false := blk_frozen hb 0
  have f1 : W.frozen? ⟨g, 1, none⟩ = false := blk_frozen hb 1
  have f2 : W.frozen? ⟨g, 2, none⟩ = false := blk_frozen hb 2
  have HB := Lib.hid hb
  have hc1 : (c : Int) ≤ 9223372036854775807 := by omega
  have hc0 : 0 ≤ (c : Int) := by omega
  clear hb hc
  go_enter Tryz.func114, Tryz.ntmps114
  go_wp2
  exact bodyPost_end (results_none rfl _ _ _) rfl ⟨rfl, ⟨_, blk_set (blk_set (blk_set HB.out 0 _) 1 _) 2 _⟩, (((Only.refl (fun b => b = g) W).setCell (a := ⟨g, 0, none⟩) (fun _ => rfl) _).setCell (a := ⟨g, 1, none⟩) (fun _ => rfl) _).setCell (a := ⟨g, 2, none⟩) (fun _ => rfl) _⟩
set_option maxHeartbeats 3200000 in
set_option maxRecDepth 100000 in
theorem buf_none {W : World} {g : Nat} {A : Option Addr} {c i : Nat} {data : List Int} (h : AtBf W g A c i data) (hi : data.length ≤ i) (p : Option Addr) (m pc : Nat) (hm : 0 < m) (v : Value) (he : W.cell? ⟨0, 0, none⟩ = some v) (hg : 0 ≠ g) :
    Calls Tryz.prog 194 #[.pointer (some ⟨g, 0, none⟩), .slice p m pc] W fun e w' => e = .returned (.tuple #[.int .i64 0, v]) ∧ (∃ A', AtBf w' g A' c 0 []) ∧ Only (fun b => b = g) W w' := by
  obtain ⟨⟨lr, hb⟩, hrd, hle, hcap, hbig, hfar⟩ := h
  have hdm := Kd.C_max hrd
  have c2 : W.cell? ⟨g, 2, none⟩ = some (.int .i8 lr) := blk_cell hb 2
  have f2 : W.frozen? ⟨g, 2, none⟩ = false := blk_frozen hb 2
  have HB := Lib.hid hb
  have HE := Lib.hid he
  have HD : Hid (data.length ≤ 9223372036854775807 ∧ i ≤ 9223372036854775807 ∧ data.length ≤ c ∧ c ≤ 9223372036854775807) := Lib.hid ⟨hdm, by omega, hcap, hbig⟩
  have HR : Hid (decide (data.length ≤ i) = true) := Lib.hid (decide_eq_true hi)
  have HNG := Lib.hid hg
  have m0 : decide ((m : Int) = 0) = false := decide_eq_false (by omega)
  have m1 : ¬ m = 0 := by omega
  clear hb hrd hle hcap hbig hfar hdm hi hm he hg
  go_enter Tryz.func194, Tryz.ntmps194
  go_upto_region 6 with (first
    | (go_at_call 195
       obtain ⟨W1, hW1⟩ : ∃ W1, W1 = W.setCell ⟨g, 2, none⟩ (.int .i8 0) := ⟨_, rfl⟩
       rw [← hW1]
       have hG1 : W1.heap[g]? = some (.cells #[.slice A data.length c, .int .i64 i, .int .i8 0] 134 (0, 0)) := by rw [hW1]; exact blk_set HB.out 2 _
       have hO1 : Only (fun b => b = g) W W1 := by rw [hW1]; exact (Only.refl (fun b => b = g) W).setCell (a := ⟨g, 2, none⟩) (fun _ => rfl) _
       refine (bf_empty hG1 HD.out.1 HD.out.2.1 true HR.out).mono ?_
       rintro e W2 ⟨rfl, hW2⟩
       have HG2 : Hid (W2.heap[g]? = some (.cells #[.slice A data.length c, .int .i64 i, .int .i8 0] 134 (0, 0))) := Lib.hid (by rw [hW2]; exact hG1)
       have HO2 : Hid (Only (fun b => b = g) W W2) := Lib.hid (by rw [hW2]; exact hO1.drew)
       have HST : Hid (∀ b, b ≠ g → W2.heap[b]? = W.heap[b]?) := Lib.hid (fun b hb => by rw [hW2]; show W1.heap[b]? = _; rw [hW1]; exact Below.heap_setCell W ⟨g, 2, none⟩ _ b hb)
       clear hW1 hG1 hO1 hW2 c2 f2)
    | (go_at_call 114
       refine (bf_reset HG2.out HD.out.2.2.1 HD.out.2.2.2).mono ?_
       rintro e W3 ⟨rfl, ⟨A', hG3⟩, hO3⟩
       have HG3 := Lib.hid hG3
       have HO3 : Hid (Only (fun b => b = g) W W3) := Lib.hid (HO2.out.trans hO3 (fun _ _ h => h))
       clear hG3 hO3))
  have he3 : W3.drew.cell? ⟨0, 0, none⟩ = some v := (World.cell?_of_block (w := W) (HO3.out.block _ (World.block_lt_of_cell? W _ HE.out) HNG.out)).trans HE.out
  refine start_ (n := 3) (S := fun w' => w'.cell? ⟨0, 0, none⟩ = some v) (ds := []) #[false, false, false] (by kernel_rfl) rfl rfl (he3) (fun hHeld => ?_)
  refine pure_ (i := 1) (N := some 4) (v := ?_) (a' := ?_) #[false, true, false] rfl rfl (by kernel_rfl) (fun _ _ _ h => h) (Or.inl ⟨by rfl, ?_⟩) ?_ ?_
  rotate_left
  · intro w'
    go_simp
    with_reducible rfl
  rotate_left
  · simp only [Act.put, List.setIfInBounds_toArray, List.set_cons_zero, List.set_cons_succ, i64_w, i32_w]
    rfl
  refine take_ (i := 0) (N := some 16) (v := ?_) (a' := ?_) #[true, true, false] rfl rfl (by kernel_rfl) (fun _ _ _ h => h) (Or.inl ⟨by rfl, ?_⟩) hHeld ?_ ?_
  rotate_left
  · intro w' s0
    go_simp
    with_reducible rfl
  rotate_left
  · simp only [Act.put, List.setIfInBounds_toArray, List.set_cons_zero, List.set_cons_succ, i64_w, i32_w]
    rfl
  refine pure_ (i := 2) (N := some 5) (v := ?_) (a' := ?_) #[true, true, true] rfl rfl (by kernel_rfl) (fun _ _ _ h => h) (Or.inl ⟨by rfl, ?_⟩) ?_ ?_
  rotate_left
  · intro w'
    go_simp
    with_reducible rfl
  rotate_left
  · simp only [Act.put, List.setIfInBounds_toArray, List.set_cons_zero, List.set_cons_succ, i64_w, i32_w]
    rfl
  refine done_ (by kernel_rfl) ?_
  go_wp2
  go_ret2
  exact ⟨rfl, ⟨A', ⟨0, HG3.out⟩, ⟨rfl, by decide, fun h => absurd h (by simp)⟩, Nat.le_refl _, Nat.zero_le _, HD.out.2.2.2, fun _ _ h => absurd h (by simp)⟩, HO3.out.drew⟩
set_option maxHeartbeats 3200000 in
set_option maxRecDepth 100000 in
theorem buf_some {W : World} {g : Nat} {A : Option Addr} {c i : Nat} {data : List Int} (h : AtBf W g A c i data) (hi : i < data.length) (pb po m pc : Nat) (cur : Array Value) (hp : W.heap[pb]? = some (.cells cur 5 (0, 0))) (hf : po + m ≤ cur.size) (hg : pb ≠ g) (hA : ∀ a, A = some a → 1 ≤ data.length → a.block ≠ pb) :
    Calls Tryz.prog 194 #[.pointer (some ⟨g, 0, none⟩), .slice (some ⟨pb, po, none⟩) m pc] W fun e w' => e = .returned (.tuple #[.int .i64 (Nat.min (data.length - i) m : Nat), .nilIface]) ∧ AtBf w' g A c (i + Nat.min (data.length - i) m) data ∧ Took (fun k => k = g) pb po cur ((data.drop i).take (Nat.min (data.length - i) m)) W w' := by
  obtain ⟨⟨lr, hb⟩, hrd, hle, hcap, hbig, hfar⟩ := h
  obtain ⟨a, rfl⟩ : ∃ a, A = some a := by
    obtain ⟨ad, hA, _⟩ := Kd.at_int hrd (i : Int) (by omega) (by omega)
    exact ⟨ad, hA⟩
  have hfa := hfar a rfl (by omega)
  have hpa := hA a rfl (by omega)
  obtain ⟨k, hk⟩ : ∃ k, k = Nat.min (data.length - i) m := ⟨_, rfl⟩
  have hkl : k ≤ data.length - i := by rw [hk]; exact Nat.min_le_left _ _
  have hkm : k ≤ m := by rw [hk]; exact Nat.min_le_right _ _
  have hxs : ((data.drop i).take k).length = k := by rw [List.length_take, List.length_drop]; omega
  have hsrc : ∀ U : World, (∀ b, b ≠ g → U.heap[b]? = W.heap[b]?) → ∀ j u, (nums .u8 ((data.drop i).take k))[j]? = some u → U.cell? ((a.add i).add j) = some u := fun U hU j u hj => by
    have hjk : j < k := by
      have := (List.getElem?_eq_some_iff.1 hj).1
      simpa [nums_length, hxs] using this
    obtain ⟨ad, hA, hc⟩ := Kd.at_int hrd ((i + j : Nat) : Int) (by omega) (by omega)
    injection hA with hA
    subst hA
    rw [Int.toNat_natCast] at hc
    have e : (a.add i).add j = a.add (i + j) := by
      unfold Addr.add
      by_cases h1 : i = 0 <;> by_cases h2 : j = 0 <;> simp [h1, h2, Nat.add_assoc]
    have e2 : u = .int .u8 (rd data ((i + j : Nat) : Int)) := by
      rw [nums_take, nums_drop, List.getElem?_take_of_lt hjk, List.getElem?_drop, nums, List.getElem?_map] at hj
      rw [rd, Int.toNat_natCast, List.getD_eq_getElem?_getD]
      cases hd : data[i + j]? with
      | none => rw [hd] at hj; simp at hj
      | some z => rw [hd] at hj; simpa using hj.symm
    rw [e, e2, World.cell?_of_block (w := W) (by rw [Lib.block_add]; exact hU _ hfa)]
    exact hc
  have hcp : ∀ U : World, (∀ b, b ≠ g → U.heap[b]? = W.heap[b]?) → (Builtin.copy_ #[22, 22] 3 #[.slice (some ⟨pb, po, none⟩) m pc, .slice (some (a.add i)) (data.length - i) (c - i)]).run Tryz.prog U = .ok (goInt k) (U.setRow pb (cur.toList.take po ++ (nums .u8 ((data.drop i).take k) ++ cur.toList.drop (po + ((data.drop i).take k).length))).toArray) := fun U hU => by
    have := run_copy_row (P := Tryz.prog) U 22 22 3 5 pb po m pc (a.add i) (data.length - i) (c - i) cur 5 (nums .u8 ((data.drop i).take k)) Tryz.underlying22 info8 ((hU pb hg).trans hp) (by rw [nums_length, hxs, hk]) (hsrc U hU) (by rw [nums_length, hxs]; omega) (nums_one _)
    rw [nums_length, hxs, List.append_assoc] at this
    rw [hxs]
    exact this
  obtain ⟨row, hrow⟩ : ∃ row, row = (cur.toList.take po ++ (nums .u8 ((data.drop i).take k) ++ cur.toList.drop (po + ((data.drop i).take k).length))).toArray := ⟨_, rfl⟩
  rw [← hrow] at hcp
  have HTK : Hid (∀ w', w'.heap[pb]? = some (.cells row 5 (0, 0)) → Only (fun k => k = g ∨ k = pb) W w' → Took (fun k => k = g) pb po cur ((data.drop i).take k) W w') := Lib.hid (fun w' h1 h2 => ⟨by rw [← hrow]; exact h1, h2⟩)
  have HRD : Hid (∀ w' : World, (∀ b, b ≠ g → b ≠ pb → w'.heap[b]? = W.heap[b]?) → B8.C w' (some a) data.length data) := Lib.hid (fun w' hw => C_block hrd (hw _ hfa hpa))
  have HCP := Lib.hid hcp
  have HP := Lib.hid hp
  have HB := Lib.hid hb
  have HNE : Hid (g ≠ pb) := Lib.hid (fun e => hg e.symm)
  have HBG := Lib.hid (And.intro hbig (And.intro hcap hfar))
  have HK := Lib.hid (And.intro hkl hk)
  have HD : Hid (data.length ≤ 9223372036854775807 ∧ i ≤ 9223372036854775807 ∧ data.length ≤ c ∧ c ≤ 9223372036854775807) := Lib.hid ⟨by omega, by omega, hcap, hbig⟩
  have HR : Hid (decide (data.length ≤ i) = false) := Lib.hid (decide_eq_false (by omega))
  have c2 : W.cell? ⟨g, 2, none⟩ = some (.int .i8 lr) := blk_cell hb 2
  have f2 : W.frozen? ⟨g, 2, none⟩ = false := blk_frozen hb 2
  have hci : ¬ c = i := by omega
  have hki : (i : Int) ≤ 9223372036854775807 := by omega
  rw [← hk]
  clear hcp hp hb hrd hfar hfa hpa hA hsrc hrow hxs hg hbig hk hkl hkm
  go_enter Tryz.func194, Tryz.ntmps194
  go_upto_region 7 with (first
    | (go_at_call 195
       obtain ⟨W1, hW1⟩ : ∃ W1, W1 = W.setCell ⟨g, 2, none⟩ (.int .i8 0) := ⟨_, rfl⟩
       rw [← hW1]
       have hG1 : W1.heap[g]? = some (.cells #[.slice (some a) data.length c, .int .i64 i, .int .i8 0] 134 (0, 0)) := by rw [hW1]; exact blk_set HB.out 2 _
       have hO1 : Only (fun b => b = g) W W1 := by rw [hW1]; exact (Only.refl (fun b => b = g) W).setCell (a := ⟨g, 2, none⟩) (fun _ => rfl) _
       refine (bf_empty hG1 HD.out.1 HD.out.2.1 false HR.out).mono ?_
       rintro e W2 ⟨rfl, hW2⟩
       have HG2 : Hid (W2.heap[g]? = some (.cells #[.slice (some a) data.length c, .int .i64 i, .int .i8 0] 134 (0, 0))) := Lib.hid (by rw [hW2]; exact hG1)
       have HO2 : Hid (Only (fun b => b = g) W W2) := Lib.hid (by rw [hW2]; exact hO1.drew)
       have HST : Hid (∀ b, b ≠ g → W2.heap[b]? = W.heap[b]?) := Lib.hid (fun b hb => by rw [hW2]; show W1.heap[b]? = _; rw [hW1]; exact Below.heap_setCell W ⟨g, 2, none⟩ _ b hb)
       clear hW1 hG1 hO1 hW2 c2 f2))
  have hcp := HCP.out W2.drew HST.out
  have d0 : W2.drew.cell? ⟨g, 0, none⟩ = some (.slice (some a) data.length c) := blk_cell HG2.out 0
  have d1 : W2.drew.cell? ⟨g, 1, none⟩ = some (.int .i64 i) := blk_cell HG2.out 1
  have HP2 : Hid (W2.drew.heap[pb]? = some (.cells cur 5 (0, 0))) := Lib.hid ((HST.out pb (fun e => HNE.out e.symm)).trans HP.out)
  replace HG2 : Hid (W2.drew.heap[g]? = some (.cells #[.slice (some a) data.length c, .int .i64 i, .int .i8 0] 134 (0, 0))) := Lib.hid HG2.out
  replace HST : Hid (∀ b, b ≠ g → W2.drew.heap[b]? = W.heap[b]?) := Lib.hid HST.out
  replace HO2 : Hid (Only (fun b => b = g) W W2.drew) := Lib.hid HO2.out.drew
  refine start_ (n := 12) (S := fun w' => w'.cell? ⟨g, 0, none⟩ = some (.slice (some a) data.length c) ∧ w'.cell? ⟨g, 1, none⟩ = some (.int .i64 i)) (ds := []) #[nN,nN,nN,nN,nN,nN,nN,nN,nN,nN,nN,nN] (by kernel_rfl) rfl rfl ⟨d0, d1⟩ (fun hHeld => ?_)
  obtain ⟨W3, hW3⟩ : ∃ X, X = W2.drew := ⟨_, rfl⟩
  rw [← hW3] at d0 d1 hcp HP2 HG2 HO2 HST hHeld ⊢
  clear hW3
  refine pure_ (i := 0) (N := some 17) (v := ?_) (a' := ?_) #[yY,nN,nN,nN,nN,nN,nN,nN,nN,nN,nN,nN] rfl rfl (by kernel_rfl) (fun _ _ _ h => h) (Or.inl ⟨by rfl, ?_⟩) ?_ ?_
  rotate_left
  · intro w'
    go_simp
    with_reducible rfl
  rotate_left
  · simp only [Act.put, List.setIfInBounds_toArray, List.set_cons_zero, List.set_cons_succ, i64_w, i32_w]
    rfl
  refine pure_ (i := 1) (N := some 18) (v := ?_) (a' := ?_) #[yY,yY,nN,nN,nN,nN,nN,nN,nN,nN,nN,nN] rfl rfl (by kernel_rfl) (fun _ _ _ h => h) (Or.inl ⟨by rfl, ?_⟩) ?_ ?_
  rotate_left
  · intro w'
    go_simp
    with_reducible rfl
  rotate_left
  · simp only [Act.put, List.setIfInBounds_toArray, List.set_cons_zero, List.set_cons_succ, i64_w, i32_w]
    rfl
  refine pure_ (i := 2) (N := some 19) (v := ?_) (a' := ?_) #[yY,yY,yY,nN,nN,nN,nN,nN,nN,nN,nN,nN] rfl rfl (by kernel_rfl) (fun _ _ _ h => h) (Or.inl ⟨by rfl, ?_⟩) ?_ ?_
  rotate_left
  · intro w'
    go_simp
    with_reducible rfl
  rotate_left
  · simp only [Act.put, List.setIfInBounds_toArray, List.set_cons_zero, List.set_cons_succ, i64_w, i32_w]
    rfl
  refine pure_ (i := 3) (N := some 20) (v := ?_) (a' := ?_) #[yY,yY,yY,yY,nN,nN,nN,nN,nN,nN,nN,nN] rfl rfl (by kernel_rfl) (fun _ _ _ h => h) (Or.inl ⟨by rfl, ?_⟩) ?_ ?_
  rotate_left
  · intro w'
    go_simp
    with_reducible rfl
  rotate_left
  · simp only [Act.put, List.setIfInBounds_toArray, List.set_cons_zero, List.set_cons_succ, i64_w, i32_w]
    rfl
  refine pure_ (i := 5) (N := some 22) (v := ?_) (a' := ?_) #[yY,yY,yY,yY,nN,yY,nN,nN,nN,nN,nN,nN] rfl rfl (by kernel_rfl) (fun _ _ _ h => h) (Or.inl ⟨by rfl, ?_⟩) ?_ ?_
  rotate_left
  · intro w'
    go_simp
    with_reducible rfl
  rotate_left
  · simp only [Act.put, List.setIfInBounds_toArray, List.set_cons_zero, List.set_cons_succ, i64_w, i32_w]
    rfl
  refine pure_ (i := 6) (N := some 23) (v := ?_) (a' := ?_) #[yY,yY,yY,yY,nN,yY,yY,nN,nN,nN,nN,nN] rfl rfl (by kernel_rfl) (fun _ _ _ h => h) (Or.inl ⟨by rfl, ?_⟩) ?_ ?_
  rotate_left
  · intro w'
    go_simp
    with_reducible rfl
  rotate_left
  · simp only [Act.put, List.setIfInBounds_toArray, List.set_cons_zero, List.set_cons_succ, i64_w, i32_w]
    rfl
  refine pure_ (i := 7) (N := some 24) (v := ?_) (a' := ?_) #[yY,yY,yY,yY,nN,yY,yY,yY,nN,nN,nN,nN] rfl rfl (by kernel_rfl) (fun _ _ _ h => h) (Or.inl ⟨by rfl, ?_⟩) ?_ ?_
  rotate_left
  · intro w'
    go_simp
    with_reducible rfl
  rotate_left
  · simp only [Act.put, List.setIfInBounds_toArray, List.set_cons_zero, List.set_cons_succ, i64_w, i32_w]
    rfl
  refine take_ (i := 4) (N := some 21) (v := ?_) (a' := ?_) #[yY,yY,yY,yY,yY,yY,yY,yY,nN,nN,nN,nN] rfl rfl (by kernel_rfl) (fun _ _ _ h => h) (Or.inl ⟨by rfl, ?_⟩) hHeld ?_ ?_
  rotate_left
  · rintro w' ⟨s0, s1⟩
    go_simp
    with_reducible rfl
  rotate_left
  · simp only [Act.put, List.setIfInBounds_toArray, List.set_cons_zero, List.set_cons_succ, i64_w, i32_w]
    rfl
  refine take_ (i := 8) (N := some 25) (v := ?_) (a' := ?_) #[yY,yY,yY,yY,yY,yY,yY,yY,yY,nN,nN,nN] rfl rfl (by kernel_rfl) (fun _ _ _ h => h) (Or.inl ⟨by rfl, ?_⟩) hHeld ?_ ?_
  rotate_left
  · rintro w' ⟨s0, s1⟩
    go_simp
    with_reducible rfl
  rotate_left
  · simp only [Act.put, List.setIfInBounds_toArray, List.set_cons_zero, List.set_cons_succ, i64_w, i32_w]
    rfl
  refine pure_ (i := 9) (N := some 26) (v := ?_) (a' := ?_) #[yY,yY,yY,yY,yY,yY,yY,yY,yY,yY,nN,nN] rfl rfl (by kernel_rfl) (fun _ _ _ h => h) (Or.inl ⟨by rfl, ?_⟩) ?_ ?_
  rotate_left
  · intro w'
    go_simp
    with_reducible rfl
  rotate_left
  · simp only [Act.put, List.setIfInBounds_toArray, List.set_cons_zero, List.set_cons_succ, i64_w, i32_w]
    rfl
  refine one_ (i := 10) (N := some 27) #[yY,yY,yY,yY,yY,yY,yY,yY,yY,yY,yY,nN] rfl rfl (by kernel_rfl) (by decide) (fun K hK => ?_)
  refine value_ (w1 := ?_) (v := ?_) (by rfl) rfl ?_ ?_
  rotate_left 2
  · go_simp
    constructor
    · rfl
    · rfl
  refine hK.out _ _ ⟨(setRow_other_cell HNE.out).trans d0, (setRow_other_cell HNE.out).trans d1⟩ (fun hHeld => ?_)
  clear hK K
  refine norm_ (a' := ?_) ?_ ?_
  rotate_left
  · show Act.put _ (some 27) _ = _
    simp only [Act.put, List.setIfInBounds_toArray, List.set_cons_zero, List.set_cons_succ, i64_w, i32_w]
    rfl
  refine pure_ (i := 11) (N := some 4) (v := ?_) (a' := ?_) #[yY,yY,yY,yY,yY,yY,yY,yY,yY,yY,yY,yY] rfl rfl (by kernel_rfl) (fun _ _ _ h => h) (Or.inl ⟨by rfl, ?_⟩) ?_ ?_
  rotate_left
  · intro w'
    go_simp
    with_reducible rfl
  rotate_left
  · simp only [Act.put, List.setIfInBounds_toArray, List.set_cons_zero, List.set_cons_succ, i64_w, i32_w]
    rfl
  refine done_ (by kernel_rfl) ?_
  have HR4 := Lib.hid (setRow_heap W3 pb cur row 5 (0, 0) HP2.out)
  have HG4 : Hid ((W3.setRow pb row).heap[g]? = some (.cells #[.slice (some a) data.length c, .int .i64 i, .int .i8 0] 134 (0, 0))) := Lib.hid ((setRow_other W3 pb g row HNE.out).trans HG2.out)
  have HO4 : Hid (Only (fun b => b = g ∨ b = pb) W (W3.setRow pb row)) := Lib.hid (Only.setRow (HO2.out.mono (fun _ _ h => .inl h)) (fun _ => .inr rfl) row)
  have HS4 : Hid (∀ b, b ≠ g → b ≠ pb → (W3.setRow pb row).heap[b]? = W.heap[b]?) := Lib.hid (fun b h1 h2 => (setRow_other W3 pb b row h2).trans (HST.out b h1))
  obtain ⟨W4, hW4⟩ : ∃ W4, W4 = W3.setRow pb row := ⟨_, rfl⟩
  rw [← hW4] at HR4 HG4 HO4 HS4 ⊢
  have g1 : W4.cell? ⟨g, 1, none⟩ = some (.int .i64 i) := blk_cell HG4.out 1
  have gf1 : W4.frozen? ⟨g, 1, none⟩ = false := blk_frozen HG4.out 1
  have g2 : W4.cell? ⟨g, 2, none⟩ = some (.int .i8 0) := blk_cell HG4.out 2
  have gf2 : W4.frozen? ⟨g, 2, none⟩ = false := blk_frozen HG4.out 2
  have hks : (i : Int) + (k : Int) ≤ 9223372036854775807 := by have h1 := HBG.out.1; have h2 := HBG.out.2.1; have h3 := HK.out.1; omega
  have hk0 : (0 : Int) ≤ (k : Int) := by omega
  clear hW4 d0 d1 hcp HP2 HG2 HO2 HST HP HCP hHeld
  by_cases hz : k = 0
  · have z0 : decide (0 < (k : Int)) = false := decide_eq_false (by omega)
    have z1 : decide (0 < k) = false := decide_eq_false (by omega)
    clear hz
    go_wp2
    go_ret2
    exact ⟨rfl, ⟨⟨0, blk_set HG4.out 1 (.int .i64 ((i + k : Nat) : Int))⟩, HRD.out _ (fun b h1 h2 => (Below.heap_setCell W4 ⟨g, 1, none⟩ _ b h1).trans (HS4.out b h1 h2)), by have := HK.out.1; omega, HBG.out.2.1, HBG.out.1, HBG.out.2.2⟩,
      HTK.out _ ((Below.heap_setCell W4 ⟨g, 1, none⟩ _ pb (fun e => HNE.out e.symm)).trans HR4.out) (HO4.out.setCell (a := ⟨g, 1, none⟩) (fun _ => .inl rfl) _)⟩
  · have z0 : decide (0 < (k : Int)) = true := decide_eq_true (by omega)
    have z1 : decide (0 < k) = true := decide_eq_true (by omega)
    clear hz
    go_wp2
    go_ret2
    exact ⟨rfl, ⟨⟨-1, blk_set (blk_set HG4.out 1 (.int .i64 ((i + k : Nat) : Int))) 2 _⟩, HRD.out _ (fun b h1 h2 => (Below.heap_setCell _ ⟨g, 2, none⟩ _ b h1).trans ((Below.heap_setCell W4 ⟨g, 1, none⟩ _ b h1).trans (HS4.out b h1 h2))), by have := HK.out.1; omega, HBG.out.2.1, HBG.out.1, HBG.out.2.2⟩,
      HTK.out _ ((Below.heap_setCell _ ⟨g, 2, none⟩ _ pb (fun e => HNE.out e.symm)).trans ((Below.heap_setCell W4 ⟨g, 1, none⟩ _ pb (fun e => HNE.out e.symm)).trans HR4.out)) ((HO4.out.setCell (a := ⟨g, 1, none⟩) (fun _ => .inl rfl) _).setCell (a := ⟨g, 2, none⟩) (fun _ => .inl rfl) _)⟩
end Go.Proofs.YteockihoefbmdaaGreatDoor.Ber
namespace Go.Proofs.YteockihoefbmdaaGreatDoor.Ber
open Go.RowKit Go.Proofs.YteockihoefbmdaaGreatDoorW.PrintWords Go.Proofs.YteockihoefbmdaaGreatDoorW.PrintLast Go.Proofs.YteockihoefbmdaaGreatDoor.Buf Go.Proofs.YteockihoefbmdaaGreatDoor.Pk Go.Proofs.YteockihoefbmdaaGreatDoor.Tree Go.Proofs.YteockihoefbmdaaGreatDoor.Num Go.Proofs.YteockihoefbmdaaGreatDoor.Ident Go.Proofs.YteockihoefbmdaaGreatDoor.PFnEncode
set_option linter.unusedVariables false
set_option linter.unusedSimpArgs false
theorem AtBf.keep {W W' : World} {g : Nat} {A : Option Addr} {c i : Nat} {data : List Int} (h : AtBf W g A c i data) (hg : W'.heap[g]? = W.heap[g]?) (hA : ∀ a, A = some a → 1 ≤ data.length → W'.heap[a.block]? = W.heap[a.block]?) : AtBf W' g A c i data := by
  obtain ⟨⟨pr, hb⟩, hrd, hle, hcap, hbig, hfar⟩ := h
  refine ⟨⟨pr, hg.trans hb⟩, ?_, hle, hcap, hbig, hfar⟩
  rcases Nat.eq_zero_or_pos data.length with h0 | h0
  · exact ⟨hrd.1, hrd.2.1, fun hp => by omega⟩
  · cases A with
    | none =>
      obtain ⟨h1, h2, h3⟩ := hrd
      exact ⟨h1, h2, fun hp => by obtain ⟨ad, hA', _⟩ := h3 hp; cases hA'⟩
    | some a => exact C_block hrd (hA a rfl h0)
/-- the buffer at the bytes l; what it holds lies below B -/
def AtN (g B : Nat) (va ua : Addr) (W : World) (l : List Int) : Prop := ∃ A c i data, AtBf W g A c i data ∧ (∀ a, A = some a → 1 ≤ data.length → a.block < B) ∧ l = data.drop i ∧ EofAt W va ua
theorem bf_m (g : Nat) : ∀ w : World, (method 446 83 (.pointer (some ⟨g, 0, none⟩)) "Read").run Tryz.prog w = .ok (194, .pointer (some ⟨g, 0, none⟩)) w := fun _ => by kernel_rfl
theorem bf_n (g : Nat) : ∀ w : World, (nilAhead 446 83 (.pointer (some ⟨g, 0, none⟩)) "Read").run Tryz.prog w = .ok (some false) w := fun _ => by kernel_rfl
theorem bf_f : ∀ (args : Array Value) (w : World), (callFunc 194 args).run Tryz.prog w = .ok (.enter 194 args) w := fun _ _ => by kernel_rfl
theorem rdSpec_bf (g B : Nat) (va ua : Addr) (hg : g < B) (hlt : EofLt va ua g) :
    RdSpec 83 194 (.pointer (some ⟨g, 0, none⟩)) g B va ua (AtN g B va ua) where
  hm := bf_m g
  hn := bf_n g
  hcf := bf_f
  lt := hg
  eof := fun W l ⟨A, c, i, data, h1, hA, h2, h3⟩ => h3.e1
  ueof := fun W l ⟨A, c, i, data, h1, hA, h2, h3⟩ => h3.e2
  eofb := fun W l ⟨A, c, i, data, h1, hA, h2, h3⟩ => ⟨h3.b1, h3.b2⟩
  keep := fun W W' l ⟨A, c, i, data, h1, hA, h2, h3⟩ hk => ⟨A, c, i, data, h1.keep (hk g hg) (fun a ha h0 => hk _ (hA a ha h0)), hA, h2, h3.keep (S := fun _ => True) hlt (fun b hb => hk b (Nat.lt_trans hb hg))⟩
  none_ := by
    rintro W A' m c' ⟨A, c, i, data, h1, hA, h2, h3⟩ hm
    have hi : data.length ≤ i := by
      have := congrArg List.length h2
      rw [List.length_drop] at this
      simp at this
      omega
    refine (buf_none h1 hi A' m c' hm _ h3.e1 (Nat.ne_of_lt hlt.1)).mono ?_
    rintro e w' ⟨he, ⟨A2, h4⟩, ho⟩
    have h5 := h3.lt
    exact ⟨he, ⟨A2, c, 0, [], h4, fun _ _ h => absurd h (by simp), rfl, h3.keep (S := fun _ => True) hlt (fun b hb => ho.block b (by obtain ⟨pr, h6⟩ := h1.hb; have := blk_lt h6; omega) (Nat.ne_of_lt hb))⟩, ho⟩
  some_ := by
    rintro W l pb po m pc cur ⟨A, c, i, data, h1, hA, h2, h3⟩ hl hp hf hB
    have hi : i < data.length := by
      rcases Nat.lt_or_ge i data.length with h | h
      · exact h
      · exact absurd (h2.trans (List.drop_eq_nil_of_le h)) hl
    have hll : l.length = data.length - i := by rw [h2, List.length_drop]
    refine (buf_some h1 hi pb po m pc cur hp hf (by omega) (fun a ha h0 => by have := hA a ha h0; omega)).mono ?_
    rintro e w' ⟨he, hr, ht⟩
    rw [← hll] at he hr ht
    rw [← h2] at ht
    refine ⟨he, ⟨_, _, _, _, hr, hA, by rw [h2, List.drop_drop], h3.keep (S := fun _ => True) hlt (fun b hb => ht.2.block b ?_ ?_)⟩, ht⟩
    · obtain ⟨pr, h5⟩ := h1.hb
      have := blk_lt h5
      omega
    · rintro (h | h) <;> omega
theorem newBuffer_any (A : Option Addr) (n c : Nat) (w : World) : Calls Tryz.prog 105 #[.slice A n c] w fun e w' => e = .returned (.pointer (some ⟨w.heap.size, 0, none⟩)) ∧ w' = w.alloc (.cells #[.slice A n c, .int .i64 0, .int .i8 0] 134) := by
  go_enter Tryz.func105, Tryz.ntmps105
  go_wp2
  go_ret
  exact ⟨rfl, rfl⟩
end Go.Proofs.YteockihoefbmdaaGreatDoor.Ber
namespace Go.Proofs.YteockihoefbmdaaGreatDoor.Ber
open Go.RowKit Go.Proofs.YteockihoefbmdaaGreatDoorW.PrintWords Go.Proofs.YteockihoefbmdaaGreatDoorW.PrintLast Go.Proofs.YteockihoefbmdaaGreatDoor.Buf Go.Proofs.YteockihoefbmdaaGreatDoor.Pk Go.Proofs.YteockihoefbmdaaGreatDoor.Tree Go.Proofs.YteockihoefbmdaaGreatDoor.Num Go.Proofs.YteockihoefbmdaaGreatDoor.Ident Go.Proofs.YteockihoefbmdaaGreatDoor.PFnEncode
set_option linter.unusedVariables false
set_option linter.unusedSimpArgs false
set_option maxHeartbeats 3200000 in
set_option maxRecDepth 100000 in
theorem decErr_any (x : S34) (hd : dpx x ≤ 1000) (hkp : kp x) (hg : good x = true) (hts : tsize x ≤ 1000000) (va ua : Addr) (A : Option Addr) (cc : Nat) (data : List Int) (w : World) (hE : EofAt w va ua) (hA : B8.C w A data.length data) (lc : data.length ≤ cc) (hcc : cc ≤ 9223372036854775807) (hP : Par data x data.length) (hx : ∀ y ∈ data, 0 ≤ y ∧ y < 256) (hl : data.length ≤ 1000000) :
    Calls Tryz.prog 61 #[.slice A data.length cc] w fun e w' => ∃ b, e = .returned (.tuple #[.pointer (some ⟨b, 0, none⟩), .nilIface]) ∧ IsPk w' (w.heap.size + 1) (fun _ => True) b (rdPk x) ∧ Below w.heap.size w w' := by
  have hlt : ∀ a, A = some a → 1 ≤ data.length → a.block < w.heap.size := fun a ha h0 => by
    obtain ⟨ad, h1, h2⟩ := Kd.at_int hA 0 (Int.le_refl 0) (by omega)
    rw [ha] at h1
    injection h1 with h1
    subst h1
    have := World.block_lt_of_cell? w _ h2
    rwa [Lib.block_add] at this
  have HRP : Hid (∀ W1, W1 = w.alloc (.cells #[.slice A data.length cc, .int .i64 0, .int .i8 0] 134) → Calls Tryz.prog 104 #[.iface 83 (.pointer (some ⟨w.heap.size, 0, none⟩)), .int .i64 0] W1 fun e w' => ∃ b q, e = .returned (.tuple #[.pointer (some ⟨b, 0, none⟩), .int .i64 q, .nilIface]) ∧ IsPk w' (w.heap.size + 1) (fun _ => True) b (rdPk x) ∧ Below w.heap.size w w') := Lib.hid (by
    rintro W1 rfl
    have hb0 : Below w.heap.size w (w.alloc (.cells #[.slice A data.length cc, .int .i64 0, .int .i8 0] 134)) := below_alloc (Below.refl _ _) _
    have hsz : (w.alloc (.cells #[.slice A data.length cc, .int .i64 0, .int .i8 0] 134)).heap.size = w.heap.size + 1 := by simp
    have hQ : AtN w.heap.size (w.heap.size + 1) va ua (w.alloc (.cells #[.slice A data.length cc, .int .i64 0, .int .i8 0] 134)) data :=
      ⟨A, cc, 0, data, ⟨⟨0, blk_new _ _⟩, Kd.C_below hA hb0, Nat.zero_le _, lc, hcc, fun a ha h0 => Nat.ne_of_lt (hlt a ha h0)⟩, fun a ha h0 => Nat.lt_succ_of_lt (hlt a ha h0), rfl, hE.keep (S := fun _ => True) hE.lt hb0.block⟩
    refine (readPk (rdSpec_bf w.heap.size (w.heap.size + 1) va ua (Nat.lt_succ_self _) hE.lt) 1000 x hd hkp hg hts _ data [] data.length 0 hQ (by rw [hsz]; exact Nat.le_refl _) (by rw [List.append_nil]; exact hP) (by rw [List.append_nil]; exact hx) (by rw [List.append_nil]; exact hl) (Int.le_refl 0) (by decide)).mono ?_
    rintro e w' ⟨h1, _, ho⟩
    obtain ⟨b, h2, h3, _⟩ := h1 (Nat.le_refl _)
    rw [hsz] at h3
    exact ⟨b, _, h2, h3, ⟨ho.os, ho.tape, ho.output, Nat.le_trans hb0.size ho.size, fun k hk => (ho.block k (by rw [hsz]; omega) (Nat.ne_of_lt hk)).trans (hb0.block k hk)⟩⟩)
  clear hd hkp hg hts hE hA lc hcc hP hx hl hlt
  go_enter Tryz.func61, Tryz.ntmps61
  go_wp2_with (first
    | (go_at_call 105
       refine (newBuffer_any A data.length cc w).mono ?_
       rintro e W1 ⟨rfl, hW1⟩
       have HW1 := Lib.hid hW1
       clear hW1)
    | (go_at_call 104
       with_reducible refine (HRP.out W1 HW1.out).mono ?_
       rintro e W2 ⟨b, q, rfl, hI, hB⟩
       have HI := Lib.hid (And.intro hI hB)
       clear hI hB))
  go_ret2
  exact ⟨b, rfl, HI.out.1, HI.out.2⟩
end Go.Proofs.YteockihoefbmdaaGreatDoor.Ber
namespace Go.Proofs.YteockihoefbmdaaGreatDoor.Ber
open Go.RowKit Go.Proofs.YteockihoefbmdaaGreatDoorW.PrintWords Go.Proofs.YteockihoefbmdaaGreatDoor.Buf Go.Proofs.YteockihoefbmdaaGreatDoor.Pk Go.Proofs.YteockihoefbmdaaGreatDoor.Num Go.Proofs.YteockihoefbmdaaGreatDoor.Ident Go.Proofs.YteockihoefbmdaaGreatDoor.Tree Go.Proofs.YteockihoefbmdaaGreatDoor.PFnEncode
set_option linter.unusedVariables false
set_option linter.unusedSimpArgs false

mutual
/-- the packet that is built -/
def pkOf : S30 → Pk
  | ⟨a, b, c, d, l⟩ => ⟨a * 64, if c then 32 else 0, b, .nilIface, [], if c then bytesL (mirL l) else d, if c then pkL l else [], ⟨#[]⟩⟩
def pkL : List S30 → List Pk
  | [] => []
  | x :: xs => pkOf x :: pkL xs
end
theorem pkL_append (l m : List S30) : pkL (l ++ m) = pkL l ++ pkL m := by
  induction l with
  | nil => rfl
  | cons x xs ih => rw [List.cons_append, pkL, pkL, ih]; rfl
theorem pkL_length (l : List S30) : (pkL l).length = l.length := by
  induction l with
  | nil => rfl
  | cons x xs ih => rw [pkL, List.length_cons, List.length_cons, ih]

/-- a proper packet of this size at most -/
structure Fit (p : S30) (n : Nat) : Prop where
  a0 : 0 ≤ p.f0
  a3 : p.f0 ≤ 3
  b0 : 0 ≤ p.f1
  b1 : p.f1 < 268435456
  dat : p.f2 = true → p.f3 = []
  kid : p.f2 = false → p.f4 = []
  kids : ∀ k, k ∈ p.f4 → good (mir k) = true ∧ tsize (mir k) < n
  len : p.f3.length < n
  num : p.f4.length < n
  all : tsizeL (mirL p.f4) < n

theorem mirL_length (l : List S30) : (mirL l).length = l.length := by rw [mirL_eq, List.length_map]
theorem good_mem {l : List S30} (h : goodL (mirL l) = true) {k : S30} (hk : k ∈ l) : good (mir k) = true := by
  rw [mirL_eq, goodL_all, List.all_map] at h
  exact List.all_eq_true.1 h k hk
theorem tsize_mem : ∀ {l : List S30} {k : S30}, k ∈ l → tsize (mir k) ≤ tsizeL (mirL l)
  | x :: xs, k, h => by
    rw [mirL, tsizeL]
    rcases List.mem_cons.1 h with rfl | h
    · omega
    · have := tsize_mem h
      omega

theorem fit_of {p : S30} (h : good (mir p) = true) : Fit p (tsize (mir p)) := by
  obtain ⟨a, b, c, d, l⟩ := p
  rw [mir, good] at h
  simp only [Bool.and_eq_true, decide_eq_true_eq] at h
  obtain ⟨⟨⟨⟨⟨a0, a3⟩, b0⟩, b1⟩, hc⟩, hg⟩ := h
  rw [mir]
  have hl := len_le_tsB (mirL l)
  rw [mirL_length] at hl
  refine ⟨a0, a3, b0, b1, ?_, ?_, fun k hk => ⟨good_mem hg hk, ?_⟩, ?_, ?_, ?_⟩
  · rintro (rfl : c = true)
    rw [if_pos rfl] at hc
    exact List.eq_nil_of_length_eq_zero (by simpa using hc)
  · rintro (rfl : c = false)
    rw [if_neg (by decide)] at hc
    have : (mirL l).length = 0 := by simpa using hc
    exact List.eq_nil_of_length_eq_zero (by rwa [mirL_length] at this)
  · have h1 : tsize (mir k) ≤ tsizeL (mirL l) := tsize_mem (l := l) hk
    rw [tsize]; omega
  · show d.length < _
    rw [tsize]; omega
  · show l.length < _
    rw [tsize]; omega
  · show tsizeL (mirL l) < _
    rw [tsize]; omega

theorem pk_bytes {p : S30} (h : good (mir p) = true) : pkBytes p.f0 p.f1 p.f2 (pkOf p).data = bytesT (mir p) := by
  have f := fit_of h
  obtain ⟨a, b, c, d, l⟩ := p
  rw [mir, bytesT, pkOf, pkBytes]
  cases c with
  | true =>
    have : d = [] := f.dat rfl
    subst this
    simp
  | false =>
    have : l = [] := f.kid rfl
    subst this
    simp [mirL, bytesL]

theorem bytesL_small {l : List S30} (h : goodL (mirL l) = true) (hn : tsizeL (mirL l) < 1000000000) : (bytesL (mirL l)).length < 14000000000 := by
  have := bytesL_le _ h (by omega)
  omega
theorem good_take {l : List S30} (h : goodL (mirL l) = true) (k : Nat) : goodL (mirL (l.take k)) = true := by
  rw [mirL_eq, goodL_all, List.all_map] at h ⊢
  exact List.all_eq_true.2 (fun x hx => List.all_eq_true.1 h x (List.mem_of_mem_take hx))
theorem tsizeL_take (l : List S30) (k : Nat) : tsizeL (mirL (l.take k)) ≤ tsizeL (mirL l) := by
  have h : mirL l = mirL (l.take k) ++ mirL (l.drop k) := by rw [← mirL_append, List.take_append_drop]
  rw [h, tsizeL_append]
  omega
end Go.Proofs.YteockihoefbmdaaGreatDoor.Ber

namespace Go.Proofs.YteockihoefbmdaaGreatDoor.Ber
open Go.RowKit Go.Proofs.YteockihoefbmdaaGreatDoorW.PrintWords Go.Proofs.YteockihoefbmdaaGreatDoor.Buf Go.Proofs.YteockihoefbmdaaGreatDoor.Pk Go.Proofs.YteockihoefbmdaaGreatDoor.Num Go.Proofs.YteockihoefbmdaaGreatDoor.Ident Go.Proofs.YteockihoefbmdaaGreatDoor.Tree Go.Proofs.YteockihoefbmdaaGreatDoor.PFnEncode
set_option linter.unusedVariables false
set_option linter.unusedSimpArgs false

theorem and3 : ∀ n : Fin 4, Go.bits .and .i64 ((n : Nat) : Int) 3 = ((n : Nat) : Int) := by decide +kernel

theorem C_far {w : World} {A : Option Addr} {xs : List Int} {g : Nat} (h : B8.C w A xs.length xs) (hg : w.heap.size ≤ g) : ∀ a, A = some a → 1 ≤ xs.length → a.block ≠ g := by
  rintro a rfl h1 rfl
  rcases reads_cells h with ⟨h2, _⟩ | ⟨a', h2 | h2, hc⟩
  · cases h2
  · injection h2 with h2
    subst h2
    have := hc 0 (.int .u8 xs[0]) (by simp [nums])
    have h5 := World.block_lt_of_cell? w _ this
    have h6 : (a.add 0).block = a.block := by unfold Addr.add; split <;> rfl
    rw [h6] at h5
    omega
  · rw [h2] at h1; exact absurd h1 (by decide)

set_option maxHeartbeats 800000 in
set_option maxRecDepth 100000 in
theorem built_prim (a b : Int) (d : List Int) (A3 : Option Addr) (c3 : Nat) (v4 : Value) (w0 w : World) (a0 : 0 ≤ a) (a3 : a ≤ 3) (b0 : 0 ≤ b) (b1 : b < 268435456) (h3 : B8.C w0 A3 d.length d) (hd : d.length < 1000000000) (hb : Below w0.heap.size w0 w) :
    Calls Tryz.prog 62 #[.agg #[.int .i64 a, .int .i64 b, .bool false, .slice A3 d.length c3, v4]] w fun e w' => Made w ⟨a * 64, 0, b, .nilIface, [], d, [], ⟨#[]⟩⟩ e w' := by
  have e1 : Go.bits .and .i64 a 3 = a := by
    have e := and3 ⟨a.toNat, by omega⟩
    simp only [Int.toNat_of_nonneg a0] at e
    exact e
  have e2 : wrap64 (a * 64) = a * 64 := by unfold wrap64; omega
  have e3 : (a * 64) % 256 = a * 64 := by omega
  have e4 : IntKind.u64.wrap b = b := IntWalk.u64_in _ (by omega)
  have e5 : b % 18446744073709551616 = b := by omega
  go_enter Tryz.func62, Tryz.ntmps62
  go_wp2_with (first
    | (go_at_call 106
       obtain ⟨W0, hW0⟩ : ∃ W0, W0 = w.alloc (.cells #[.int .i64 a, .int .i64 b, .bool false, .slice A3 d.length c3, v4] 30) := ⟨_, rfl⟩
       rw [← hW0]
       have hb0 : Below w.heap.size w W0 := by rw [hW0]; exact below_alloc (Below.refl _ _) _
       have hx0 : W0.heap[w.heap.size]? = some (.cells #[.int .i64 a, .int .i64 b, .bool false, .slice A3 d.length c3, v4] 30 (0, 0)) := by rw [hW0]; exact blk_new _ _
       clear hW0
       refine (encode_nil (a * 64) 0 b ⟨#[]⟩ W0).mono ?_
       rintro e W1 ⟨q, rfl, hI1, hB1⟩
       obtain ⟨db, v, bv, cv, P1⟩ := parts_of hI1.bound
       have k2 : W1.cell? ⟨w.heap.size, 2, none⟩ = some (.bool false) := blk_cell (blk_below hx0 hB1) 2
       have k3 : W1.cell? ⟨w.heap.size, 3, none⟩ = some (.slice A3 d.length c3) := blk_cell (blk_below hx0 hB1) 3
       have k5 : W1.cell? ⟨q, 5, none⟩ = some (.pointer (some ⟨db, 0, none⟩)) := P1.cell 5
       have hB2 : Below w.heap.size w W1.drew := (hb0.trans (hB1.mono hb0.size)).drew
       have hC2 : B8.C W1.drew A3 d.length d := Kd.C_below (Kd.C_below h3 hb) hB2
       have P2 := P1.below (Below.refl _ W1).drew
       have HW2 := Lib.hid (write_row db _ [] d A3 c3 W1.drew P2.buf hC2 (C_far h3 (Nat.le_trans hb.size (Nat.le_trans hb0.size P1.led))) (by simp; omega))
       have HP2 := Lib.hid P2
       have HB2 := Lib.hid hB2
       have HS2 := Lib.hid hb0.size
       have HS3 : Hid (W0.heap.size ≤ W1.drew.heap.size) := Lib.hid hB1.size
       clear hb0 hx0 hI1 hB1 P1 hB2 hC2 P2))
  go_region_with (go_at_call 107; with_reducible refine HW2.out.mono ?_; rintro e W3 hw; obtain ⟨rfl, hO3, v3, hP3⟩ := HP2.out.wrote hw HS3.out; have HO3 := Lib.hid hO3; have HP3 := Lib.hid hP3; clear hw hO3 hP3)
  all_goals (
    go_wp2
    go_ret
    refine ⟨q, rfl, (HP3.out.okmono (fun _ _ => trivial)).pk.lower HS2.out, HB2.out.trans (HO3.out.below HB2.out.size (fun i hi => Nat.le_trans HS2.out hi.2.1))⟩)

theorem pkOf_cls (p : S30) : (pkOf p).cls = p.f0 * 64 := by cases p; rfl
theorem pkOf_typ (p : S30) : (pkOf p).typ = if p.f2 then 32 else 0 := by cases p; rfl
theorem pkOf_tag (p : S30) : (pkOf p).tag = p.f1 := by cases p; rfl
theorem pkOf_small {p : S30} (h : good (mir p) = true) (hn : tsize (mir p) ≤ 1000000) : (pkOf p).data.length < 1099511627776 := by
  have h1 := bytesT_le _ h (by omega)
  rw [← pk_bytes h] at h1
  simp only [pkBytes, List.length_append] at h1
  omega
/-- the packet after so many children -/
def upTo (a b : Int) (l : List S30) (k : Nat) : Pk := ⟨a * 64, 32, b, .nilIface, [], bytesL (mirL (l.take k)), pkL (l.take k), ⟨#[]⟩⟩

theorem upTo_step (a b : Int) {l : List S30} {k : Nat} (hk : k < l.length) {kid : S30} (hkid : kid = rd_T30 l (k : Int)) (hg : good (mir kid) = true) :
    ({ upTo a b l k with data := (upTo a b l k).data ++ pkBytes kid.f0 kid.f1 kid.f2 (pkOf kid).data, kids := (upTo a b l k).kids ++ [pkOf kid] } : Pk) = upTo a b l (k + 1) := by
  have ht : l.take (k + 1) = l.take k ++ [kid] := by
    rw [hkid, rd_T30, Int.toNat_natCast, List.getD_eq_getElem?_getD, List.getElem?_eq_getElem hk]
    exact List.take_succ_eq_append_getElem hk
  unfold upTo
  rw [ht, mirL_append, bytesL_append, pkL_append, pk_bytes hg]
  simp [mirL, bytesL, pkL]

theorem upTo_small (a b : Int) {l : List S30} (hg : goodL (mirL l) = true) (ht : tsizeL (mirL l) < 1000001) (k : Nat) : (upTo a b l k).data.length < 1099511627776 := by
  have h1 : (bytesL (mirL (l.take k))).length < 14000000000 := bytesL_small (good_take hg k) (by have := tsizeL_take l k; omega)
  show (bytesL (mirL (l.take k))).length < _
  omega
theorem upTo_kids (a b : Int) {l : List S30} (hl : l.length < 1000001) (k : Nat) : (upTo a b l k).kids.length < 1099511627776 := by
  rw [upTo]
  show (pkL (l.take k)).length < _
  rw [pkL_length, List.length_take]
  omega

/-- One more child. -/
theorem round_app {a b : Int} {l : List S30} {k : Nat} {kid : S30} {wr W5 W6 : World} {base q qc : Nat} (hgl : goodL (mirL l) = true) (hal : tsizeL (mirL l) < 1000001) (hll : l.length < 1000001) (kg : good (mir kid) = true) (kt : tsize (mir kid) ≤ 1000000)
    (hst : ({ upTo a b l k with data := (upTo a b l k).data ++ pkBytes kid.f0 kid.f1 kid.f2 (pkOf kid).data, kids := (upTo a b l k).kids ++ [pkOf kid] } : Pk) = upTo a b l (k + 1))
    (hI : IsPk wr base (fun _ => True) q (upTo a b l k)) (hbase : base ≤ wr.heap.size) (hb5 : Below wr.heap.size wr W5) (hIc : IsPk W6 W5.heap.size (fun _ => True) qc (pkOf kid)) (hB6 : Below W5.heap.size W5 W6) :
    Calls Tryz.prog 86 #[.pointer (some ⟨q, 0, none⟩), .pointer (some ⟨qc, 0, none⟩)] W6 fun e w' => (∃ u, e = .returned u) ∧ IsPk w' base (fun _ => True) q (upTo a b l (k + 1)) ∧ Below base W6 w' := by
  have kf := fit_of kg
  have hs5 := hb5.size
  have hs6 := hB6.size
  have hd1 := upTo_small a b hgl hal k
  have hd2 := upTo_kids a b hll k
  have hd3 := pkOf_small kg kt
  have hc1 := pkOf_cls kid
  have hc2 := pkOf_typ kid
  have hc3 := pkOf_tag kid
  obtain ⟨x, hx⟩ : ∃ x, x = upTo a b l k := ⟨_, rfl⟩
  obtain ⟨y, hy⟩ : ∃ y, y = pkOf kid := ⟨_, rfl⟩
  rw [← hx] at hst hI hd1 hd2
  rw [← hy] at hst hIc hd3 hc1 hc2 hc3
  clear hx hy
  obtain ⟨db, v, bv, cv, P6⟩ := parts_of ((hI.bound.below hb5).below hB6)
  obtain ⟨dq, vq, bq, cq, C6⟩ := parts_of (hIc.bound.lower (Nat.le_trans hbase hs5))
  refine (append_any kid.f0 kid.f1 kid.f2 kf.a0 kf.a3 kf.b0 kf.b1 x y hc1 hc2 hc3 hd3 hd1 hd2 W6 P6 C6 ?_ (fun j h1 => h1.2.2) (Nat.le_trans hbase (Nat.le_trans hs5 hs6)) (fun j h1 => h1.2.1)).mono ?_
  · intro j h1 h2
    have h3 := h1.2.1
    have h4 := h2.2.2
    omega
  · rintro e W7 ⟨hu, hO7, v7, cv7, hP7⟩
    have h7 := (hP7.okmono (ok' := fun _ => True) (fun _ _ => trivial)).pk
    rw [hst] at h7
    exact ⟨hu, h7, hO7.below (Nat.le_trans hbase (Nat.le_trans hs5 hs6)) (fun i hi => hi.2.1)⟩

end Go.Proofs.YteockihoefbmdaaGreatDoor.Ber

namespace Go.Proofs.YteockihoefbmdaaGreatDoor.Ber
open Go.RowKit Go.Proofs.YteockihoefbmdaaGreatDoorW.PrintWords Go.Proofs.YteockihoefbmdaaGreatDoor.Buf Go.Proofs.YteockihoefbmdaaGreatDoor.Pk Go.Proofs.YteockihoefbmdaaGreatDoor.Num Go.Proofs.YteockihoefbmdaaGreatDoor.Ident Go.Proofs.YteockihoefbmdaaGreatDoor.Tree Go.Proofs.YteockihoefbmdaaGreatDoor.PFnEncode
set_option linter.unusedVariables false
set_option linter.unusedSimpArgs false

set_option maxHeartbeats 400000 in
set_option maxRecDepth 100000 in
theorem built_any (w0 : World) : ∀ (n : Nat), n ≤ 1000000 → ∀ (p : S30) (A3 : Option Addr) (c3 : Nat) (A4 : Option Addr) (c4 : Nat) (w : World), good (mir p) = true → tsize (mir p) ≤ n → B8.C w0 A3 p.f3.length p.f3 → k30.C w0 A4 p.f4.length p.f4 → Below w0.heap.size w0 w →
    Calls Tryz.prog 62 #[.agg #[.int .i64 p.f0, .int .i64 p.f1, .bool p.f2, .slice A3 p.f3.length c3, .slice A4 p.f4.length c4]] w (Made w (pkOf p)) := by
  intro n
  induction n with
  | zero =>
    rintro _ ⟨a, b, c, d, l⟩ A3 c3 A4 c4 w hg ht
    rw [mir, tsize] at ht
    omega
  | succ n ih =>
    rintro hn p A3 c3 A4 c4 w hg ht h3 h4 hb
    have hf := fit_of hg
    obtain ⟨a, b, c, d, l⟩ := p
    cases c with
    | false =>
      have hl : l = [] := hf.kid rfl
      subst hl
      exact built_prim a b d A3 c3 _ w0 w hf.a0 hf.a3 hf.b0 hf.b1 h3 (by have := hf.len; simp only at this; omega) hb
    | true =>
      obtain ⟨a0, a3, b0, b1, -, -, hkids, -, hnum, hall⟩ := hf
      simp only at a0 a3 b0 b1 hkids hnum hall h3 h4 ⊢
      have hgl : goodL (mirL l) = true := by
        rw [mir, good] at hg
        simp only [Bool.and_eq_true] at hg
        exact hg.2
      have e1 : Go.bits .and .i64 a 3 = a := by
        have e := and3 ⟨a.toNat, by omega⟩
        simp only [Int.toNat_of_nonneg a0] at e
        exact e
      have e2 : wrap64 (a * 64) = a * 64 := by unfold wrap64; omega
      have e3 : (a * 64) % 256 = a * 64 := by omega
      have e4 : IntKind.u64.wrap b = b := IntWalk.u64_in _ (by omega)
      have e5 : b % 18446744073709551616 = b := by omega
      have H4 := Lib.hid h4
      have HB := Lib.hid hb
      have HKIDS := Lib.hid hkids
      have HGL := Lib.hid hgl
      have HIH := Lib.hid (ih (by omega))
      have hll : l.length < 1000001 := by omega
      have hal : tsizeL (mirL l) < 1000001 := by omega
      have htn : tsizeL (mirL l) ≤ n := by rw [mir, tsize] at ht; omega
      clear h3 h4 hkids hgl hg ht hnum hall hb ih
      obtain ⟨fin, hfin⟩ : ∃ fin, fin = pkOf ⟨a, b, true, d, l⟩ := ⟨_, rfl⟩
      rw [← hfin]
      have HF := Lib.hid hfin
      clear hfin
      go_enter Tryz.func62, Tryz.ntmps62
      go_wp2_with (first
        | (go_at_call 106
           obtain ⟨W0, hW0⟩ : ∃ W0, W0 = w.alloc (.cells #[.int .i64 a, .int .i64 b, .bool true, .slice A3 d.length c3, .slice A4 l.length c4] 30) := ⟨_, rfl⟩
           rw [← hW0]
           have hb0 : Below w.heap.size w W0 := by rw [hW0]; exact below_alloc (Below.refl _ _) _
           have hx0 : W0.heap[w.heap.size]? = some (.cells #[.int .i64 a, .int .i64 b, .bool true, .slice A3 d.length c3, .slice A4 l.length c4] 30 (0, 0)) := by rw [hW0]; exact blk_new _ _
           clear hW0
           refine (encode_nil (a * 64) 32 b ⟨#[]⟩ W0).mono ?_
           rintro e W1 ⟨q, rfl, hI1, hB1⟩
           have k2 : W1.cell? ⟨w.heap.size, 2, none⟩ = some (.bool true) := blk_cell (blk_below hx0 hB1) 2
           have k4 : W1.cell? ⟨w.heap.size, 4, none⟩ = some (.slice A4 l.length c4) := blk_cell (blk_below hx0 hB1) 4
           have HI1 := Lib.hid (hI1.lower hb0.size)
           have HB1 := Lib.hid (hb0.trans (hB1.mono hb0.size))
           clear hb0 hx0 hI1 hB1))
      go_loopw [33] (fun i wr => ∃ k : Nat, i = .int .i64 k ∧ k ≤ l.length ∧ Hid (IsPk wr w.heap.size (fun _ => True) q (upTo a b l k)) ∧ Hid (Below w.heap.size w wr)) (fun i _ => l.length - (intOf i).toNat)
      case atStart => exact ⟨0, rfl, Nat.zero_le _, HI1, HB1⟩
      case round =>
        obtain ⟨k, rfl, hk, HI, HBr⟩ := hrel
        clear e1 e2 e3 e4 e5
        by_cases hlt : k < l.length
        · have hBw : Below w0.heap.size w0 wr := HB.out.trans (HBr.out.mono HB.out.size)
          obtain ⟨ad, A3', c3', A4', c4', rfl, e0', e1', e2', e3', e4', m3, n3, m4, n4⟩ := at_T30 H4.out (k : Int) (by omega) (by omega)
          rw [Int.toNat_natCast] at e0' e1' e2' e3' e4'
          obtain ⟨kid, hkid⟩ : ∃ kid, kid = rd_T30 l (k : Int) := ⟨_, rfl⟩
          rw [← hkid] at e0' e1' e2' e3' e4' m3 n3 m4 n4
          have hmem : kid ∈ l := by
            rw [hkid, rd_T30, Int.toNat_natCast, List.getD_eq_getElem?_getD, List.getElem?_eq_getElem hlt]
            exact List.getElem_mem hlt
          obtain ⟨kg, kt⟩ := HKIDS.out kid hmem
          rw [mir, tsize] at kt
          have kf := fit_of kg
          have k1t : tsize (mir kid) ≤ 1000000 := by have := tsize_mem (l := l) hmem; omega
          replace e0' := (hBw.cell (World.block_lt_of_cell? w0 _ e0')).trans e0'
          replace e1' := (hBw.cell (World.block_lt_of_cell? w0 _ e1')).trans e1'
          replace e2' := (hBw.cell (World.block_lt_of_cell? w0 _ e2')).trans e2'
          replace e3' := (hBw.cell (World.block_lt_of_cell? w0 _ e3')).trans e3'
          replace e4' := (hBw.cell (World.block_lt_of_cell? w0 _ e4')).trans e4'
          have hb5 : Below wr.heap.size wr (wr.alloc (.cells #[.int .i64 kid.f0, .int .i64 kid.f1, .bool kid.f2, .slice A3' kid.f3.length c3', .slice A4' kid.f4.length c4'] 30)) := below_alloc (Below.refl _ _) _
          have HC := Lib.hid (HIH.out kid A3' c3' A4' c4' _ kg (by have := tsize_mem (l := l) hmem; omega) n3 n4 (hBw.trans (hb5.mono hBw.size)))
          have HSTEP := Lib.hid (upTo_step a b hlt hkid kg)
          have HB5 := Lib.hid hb5
          have HKF := Lib.hid kf
          have HKG := Lib.hid kg
          clear hkid hmem kt kf hBw hb5 kg
          go_wp2_with (first
            | (go_at_call 62
               with_reducible refine HC.out.mono ?_
               rintro e W6 ⟨qc, rfl, hIc, hB6⟩
               have HA := Lib.hid (round_app HGL.out hal hll HKG.out k1t HSTEP.out HI.out HBr.out.size HB5.out hIc hB6)
               have HB6 := Lib.hid (HBr.out.trans ((HB5.out.mono HBr.out.size).trans (hB6.mono (Nat.le_trans HBr.out.size HB5.out.size))))
               clear hIc hB6 HC)
            | (go_at_call 86
               with_reducible refine HA.out.mono ?_
               rintro e W7 ⟨⟨u, rfl⟩, hI7, hB7⟩
               have HI7 := Lib.hid hI7
               have HB7 := Lib.hid (HB6.out.trans hB7)
               clear hI7 hB7 HA HB6))
          exact ⟨⟨k + 1, rfl, hlt, HI7, HB7⟩, by
            show l.length - ((k : Int) + 1).toNat < l.length - ((k : Int)).toNat
            rw [show ((k : Int) + 1).toNat = k + 1 from rfl, Int.toNat_natCast]
            omega⟩
        · obtain rfl : k = l.length := by omega
          go_wp2
          go_ret
          refine ⟨q, rfl, ?_, HBr.out⟩
          have := HI.out
          rw [HF.out, pkOf, if_pos rfl, if_pos rfl, if_pos rfl]
          rw [upTo, List.take_length] at this
          exact this
end Go.Proofs.YteockihoefbmdaaGreatDoor.Ber
namespace Go.Proofs.YteockihoefbmdaaGreatDoor.Ber
open Go.RowKit Go.Proofs.YteockihoefbmdaaGreatDoorW.PrintWords Go.Proofs.YteockihoefbmdaaGreatDoorW.PrintLast Go.Proofs.YteockihoefbmdaaGreatDoor.Buf Go.Proofs.YteockihoefbmdaaGreatDoor.Pk Go.Proofs.YteockihoefbmdaaGreatDoor.Tree Go.Proofs.YteockihoefbmdaaGreatDoor.Num Go.Proofs.YteockihoefbmdaaGreatDoor.Ident Go.Proofs.YteockihoefbmdaaGreatDoor.PFnEncode
set_option linter.unusedVariables false
set_option linter.unusedSimpArgs false
set_option maxHeartbeats 3200000 in
set_option maxRecDepth 100000 in
theorem read_any (w0 : World) (p : S30) (A3 : Option Addr) (c3 : Nat) (A4 : Option Addr) (c4 : Nat) (w : World) (hg : good (mir p) = true) (ht : tsize (mir p) ≤ 1000000) (hkp : kp (mir p)) (hd : dpx (mir p) ≤ 1000) (h3 : B8.C w0 A3 p.f3.length p.f3) (h4 : k30.C w0 A4 p.f4.length p.f4) (hb : Below w0.heap.size w0 w) (va ua : Addr) (hE : EofAt w va ua) (hbl : (bytesT (mir p)).length ≤ 1000000) (hbin : ∀ y ∈ bytesT (mir p), 0 ≤ y ∧ y < 256) :
    Calls Tryz.prog 30 #[.agg #[.int .i64 p.f0, .int .i64 p.f1, .bool p.f2, .slice A3 p.f3.length c3, .slice A4 p.f4.length c4]] w fun e w' => ∃ b, e = .returned (.pointer (some ⟨b, 0, none⟩)) ∧ IsPk w' w.heap.size (fun _ => True) b (rdPk (mir p)) ∧ Below w.heap.size w w' := by
  obtain ⟨W0, hW0⟩ : ∃ W0, W0 = w.alloc (.cells #[.int .i64 p.f0, .int .i64 p.f1, .bool p.f2, .slice A3 p.f3.length c3, .slice A4 p.f4.length c4] 30) := ⟨_, rfl⟩
  have hba : Below w.heap.size w W0 := by rw [hW0]; exact below_alloc (Below.refl _ _) _
  have hx0 : W0.heap[w.heap.size]? = some (.cells #[.int .i64 p.f0, .int .i64 p.f1, .bool p.f2, .slice A3 p.f3.length c3, .slice A4 p.f4.length c4] 30 (0, 0)) := by rw [hW0]; exact blk_new _ _
  have b0 : W0.cell? ⟨w.heap.size, 0, none⟩ = some (.int .i64 p.f0) := blk_cell hx0 0
  have b1 : W0.cell? ⟨w.heap.size, 1, none⟩ = some (.int .i64 p.f1) := blk_cell hx0 1
  have b2 : W0.cell? ⟨w.heap.size, 2, none⟩ = some (.bool p.f2) := blk_cell hx0 2
  have b3 : W0.cell? ⟨w.heap.size, 3, none⟩ = some (.slice A3 p.f3.length c3) := blk_cell hx0 3
  have b4 : W0.cell? ⟨w.heap.size, 4, none⟩ = some (.slice A4 p.f4.length c4) := blk_cell hx0 4
  have HC := Lib.hid (built_any w0 1000000 (Nat.le_refl _) p A3 c3 A4 c4 W0 hg ht h3 h4 (hb.trans (hba.mono hb.size)))
  have HB := Lib.hid hba
  have hf := fit_of hg
  have hd3 := pkOf_small hg ht
  have hpb := pk_bytes hg
  have HBY : Hid (∀ (W : World) (base : Nat) (q : Nat), IsPk W base (fun _ => True) q (pkOf p) → Calls Tryz.prog 63 #[.pointer (some ⟨q, 0, none⟩)] W fun e w' => ∃ A c, e = .returned (.slice A (bytesT (mir p)).length c) ∧ B8.R 5 w' W.heap.size (fun _ => True) (.slice A (bytesT (mir p)).length c) (bytesT (mir p)) ∧ Below W.heap.size W w') := Lib.hid (by
    intro W base q hI
    obtain ⟨db, v, bv, cv, P⟩ := parts_of hI
    have := bytes_any p.f0 p.f1 p.f2 hf.a0 hf.a3 hf.b0 hf.b1 (pkOf p) (pkOf_cls p) (pkOf_typ p) (pkOf_tag p) hd3 W P
    rw [hpb] at this
    refine this.mono ?_
    rintro e w' ⟨r, he, hr, hB⟩
    have hR : B8.R 5 w' W.heap.size (fun _ => True) r (bytesT (mir p)) := Kd.R_of_own hr (fun _ _ => trivial)
    obtain ⟨A, c, hv⟩ := Kd.R_slice hR
    subst hv
    exact ⟨A, c, he, hR, hB⟩)
  have HDE : Hid (∀ (W : World) (A : Option Addr) (c base : Nat), Below w.heap.size w W → B8.R 5 W base (fun _ => True) (.slice A (bytesT (mir p)).length c) (bytesT (mir p)) → Calls Tryz.prog 61 #[.slice A (bytesT (mir p)).length c] W fun e w' => ∃ b, e = .returned (.tuple #[.pointer (some ⟨b, 0, none⟩), .nilIface]) ∧ IsPk w' (W.heap.size + 1) (fun _ => True) b (rdPk (mir p)) ∧ Below W.heap.size W w') := Lib.hid (fun W A c base hbw hR => by
    obtain ⟨_, ho⟩ := int_own hR
    have hbig : c ≤ 9223372036854775807 := by
      rcases ho with ⟨h, _⟩ | ⟨g', cap', cur, hv', hg, hh, h1, h2, h3, h4⟩
      · injection h with _ _ h
        omega
      · injection hv' with _ _ h
        subst h
        unfold maxLen at h2
        omega
    exact decErr_any (mir p) hd hkp hg ht va ua A c (bytesT (mir p)) W (hE.keep (S := fun _ => True) hE.lt hbw.block) (Kd.R_reads' hR).2.2 (Kd.R_reads' hR).2.1 hbig (par_bytes (mir p) hg (by omega)) hbin hbl)
  clear hba hx0 hf hd3 hpb hg h3 h4 hb ht hkp hd hE hbl hbin
  go_enter Tryz.func30, Tryz.ntmps30
  go_wp2_with (first
    | (go_at_call 62
       rw [← hW0]
       with_reducible refine HC.out.mono ?_
       rintro e W1 ⟨q, rfl, hI, hB1⟩
       have HBQ := Lib.hid (HBY.out W1 _ q hI)
       have HB1 := Lib.hid (HB.out.trans (hB1.mono HB.out.size))
       clear hI hB1)
    | (go_at_call 63
       with_reducible refine HBQ.out.mono ?_
       rintro e W2 ⟨A, c, rfl, hr, hB2⟩
       have HB2 := Lib.hid (HB1.out.trans (hB2.mono HB1.out.size))
       have HR2 := Lib.hid hr
       clear hr hB2)
    | (go_at_call 61
       with_reducible refine (HDE.out W2 A c _ HB2.out HR2.out).mono ?_
       rintro e W3 ⟨b, rfl, hI, hB3⟩
       have HI3 := Lib.hid hI
       have HB3 := Lib.hid (HB2.out.trans (hB3.mono HB2.out.size))
       clear hI hB3))
  go_ret
  exact ⟨b, rfl, HI3.out.lower (Nat.le_trans HB2.out.size (Nat.le_succ _)), HB3.out⟩
end Go.Proofs.YteockihoefbmdaaGreatDoor.Ber
namespace Go.Proofs.YteockihoefbmdaaGreatDoor.Ber
open Go.RowKit Go.Proofs.YteockihoefbmdaaGreatDoorW.PrintWords Go.Proofs.YteockihoefbmdaaGreatDoorW.PrintLast Go.Proofs.YteockihoefbmdaaGreatDoor.Buf Go.Proofs.YteockihoefbmdaaGreatDoor.Pk Go.Proofs.YteockihoefbmdaaGreatDoor.Tree Go.Proofs.YteockihoefbmdaaGreatDoor.Num Go.Proofs.YteockihoefbmdaaGreatDoor.Ident Go.Proofs.YteockihoefbmdaaGreatDoor.PFnEncode
set_option linter.unusedVariables false
set_option linter.unusedSimpArgs false

/-- a packet that is read -/
abbrev Pt (w : World) (b : Nat) (x : Pk) : Prop := IsPk w 0 (fun _ => True) b x
theorem pt_of {w : World} {base : Nat} {ok : Nat → Prop} {b : Nat} {x : Pk} (h : IsPk w base ok b x) : Pt w b x := (h.lower (Nat.zero_le _)).mono (fun _ _ => trivial)
theorem pt_kid {w : World} {b : Nat} {x : Pk} (h : Pt w b x) {k : Nat} (hk : k < x.kids.length) :
    ∃ ad cap q, w.cell? ⟨b, 6, none⟩ = some (.slice (some ⟨ad, 0, none⟩) x.kids.length cap) ∧ w.cell? ⟨ad, k, none⟩ = some (.pointer (some ⟨q, 0, none⟩)) ∧ Pt w q x.kids[k] := by
  obtain ⟨db, v, bv, cv, P⟩ := parts_of h
  obtain ⟨ad, cap, q, hsl, hcell, hkid⟩ := kid_at0 P.rk hk
  subst hsl
  exact ⟨ad, cap, q, P.cell 6, hcell, pt_of hkid⟩
theorem pt_top {w : World} {b : Nat} {x : Pk} (h : Pt w b x) : w.cell? ⟨b, 0, none⟩ = some (.int .u8 x.cls) ∧ w.cell? ⟨b, 1, none⟩ = some (.int .u8 x.typ) ∧ w.cell? ⟨b, 2, none⟩ = some (.int .u64 x.tag) ∧ w.cell? ⟨b, 3, none⟩ = some x.val ∧ ∃ A c, w.cell? ⟨b, 6, none⟩ = some (.slice A x.kids.length c) := by
  obtain ⟨db, v, bv, cv, P⟩ := parts_of h
  obtain ⟨A, c, hcv⟩ := Kd.R_slice P.rk
  subst hcv
  exact ⟨P.cell 0, P.cell 1, P.cell 2, P.cell 3, A, c, P.cell 6⟩
set_option maxHeartbeats 3200000 in
set_option maxRecDepth 100000 in
theorem child_any {w : World} {b : Nat} {x y : Pk} (h : Pt w b x) (k : Nat) (hk : x.kids[k]? = some y) (hn : x.kids.length ≤ 1000000) :
    Calls Tryz.prog 78 #[.pointer (some ⟨b, 0, none⟩), .int .i64 (k : Int)] w fun e w' => ∃ q, e = .returned (.tuple #[.pointer (some ⟨q, 0, none⟩), .nilIface]) ∧ Pt w q y ∧ w = w' := by
  have hlt : k < x.kids.length := (List.getElem?_eq_some_iff.1 hk).1
  obtain ⟨ad, cap, q, c6, cq, hq⟩ := pt_kid h hlt
  have hy : x.kids[k] = y := by
    rw [List.getElem?_eq_getElem hlt] at hk
    injection hk
  rw [hy] at hq
  have HQ := Lib.hid hq
  obtain ⟨n, hnn⟩ : ∃ n, n = x.kids.length := ⟨_, rfl⟩
  rw [← hnn] at c6 hlt hn
  have e1 : decide ((k : Int) < 0) = false := decide_eq_false (by omega)
  have e2 : decide ((n : Int) ≤ (k : Int)) = false := decide_eq_false (by omega)
  have e3 : decide ((k : Int) ≥ (n : Int)) = false := decide_eq_false (by omega)
  clear h hk hy hq hnn
  go_enter Tryz.func78, Tryz.ntmps78
  go_wp2
  go_ret2
  exact ⟨q, rfl, HQ.out, rfl⟩
theorem kta_str (s : ByteArray) : ∀ w : World, (Instr.typeAssert (.iface 9 (.string s)) 20 9 true).run Tryz.prog w = .ok (.tuple #[.string s, .bool true]) w := fun _ => by kernel_rfl
set_option maxHeartbeats 3200000 in
set_option maxRecDepth 100000 in
theorem pstr_any {w : World} {b : Nat} {x : Pk} (h : Pt w b x) (s : ByteArray) (hv : x.val = strV s) :
    Calls Tryz.prog 79 #[.pointer (some ⟨b, 0, none⟩)] w fun e w' => e = .returned (.tuple #[.string s, .nilIface]) ∧ w = w' := by
  obtain ⟨_, _, _, c3, _⟩ := pt_top h
  rw [hv, strV] at c3
  have hta := kta_str s
  clear h hv
  go_enter Tryz.func79, Tryz.ntmps79
  go_wp2
  go_ret2
  exact ⟨rfl, rfl⟩
end Go.Proofs.YteockihoefbmdaaGreatDoor.Ber
namespace Go.Proofs.YteockihoefbmdaaGreatDoor.PencodeInteger
open Go.RowKit Go.Proofs.YteockihoefbmdaaGreatDoorW.PrintWords Go.Proofs.YteockihoefbmdaaGreatDoorW.PrintLast Go.Proofs.YteockihoefbmdaaGreatDoorW.PrintMore
attribute [local go_sem] max2_int min2_int max_two min_two max_three min_three max_four min_four   -- for this text's walks alone
set_option linter.unusedVariables false
set_option linter.unusedSimpArgs false

-- the values' own types

end Go.Proofs.YteockihoefbmdaaGreatDoor.PencodeInteger
namespace Go.Proofs.YteockihoefbmdaaGreatDoor.PencodeInteger
open Go.RowKit Go.Proofs.YteockihoefbmdaaGreatDoorW.PrintWords Go.Proofs.YteockihoefbmdaaGreatDoorW.PrintLast Go.Proofs.YteockihoefbmdaaGreatDoorW.PrintMore
attribute [local go_sem] max2_int min2_int max_two min_two max_three min_three max_four min_four   -- for this text's walks alone
set_option linter.unusedVariables false
set_option linter.unusedSimpArgs false

/-! ### asn1ber_int64Length: function 202 -/
/-! ### asn1ber_encodeInteger: function 201 -/
end Go.Proofs.YteockihoefbmdaaGreatDoor.PencodeInteger
namespace Go.Proofs.YteockihoefbmdaaGreatDoor.Ber
open Go.RowKit Go.Proofs.YteockihoefbmdaaGreatDoorW.PrintWords Go.Proofs.YteockihoefbmdaaGreatDoor.PFnEncode Go.Proofs.YteockihoefbmdaaGreatDoor.Buf Go.Proofs.YteockihoefbmdaaGreatDoor.Pk Go.Proofs.YteockihoefbmdaaGreatDoor.Within Go.Proofs.YteockihoefbmdaaGreatDoor.Num
set_option linter.unusedVariables false
set_option linter.unusedSimpArgs false

/-- What a builder leaves: the packet x, in blocks from b on; the old memory as it was. -/
def Nw (b : Nat) (w : World) (x : S34) (e : Ending) (w' : World) : Prop :=
  ∃ A3 c3 A4 c4, e = .returned (.agg #[.int .i64 x.f0, .int .i64 x.f1, .bool x.f2, .slice A3 x.f3.length c3, .slice A4 x.f4.length c4]) ∧ x.f3.length ≤ c3 ∧ Kd.F (Kd.int .u8) w' (fun k => b ≤ k) A3 x.f3.length x.f3 ∧ x.f4.length ≤ c4 ∧ Kd.F k34 w' (fun k => b ≤ k) A4 x.f4.length x.f4 ∧ Below w.heap.size w w'

theorem nw_of {b : Nat} {w w' : World} (x : S34) {b3 b4 e3 : Nat} {ok3 ok4 : Nat → Prop} {v3 v4 : Value} (h3 : Kd.R (Kd.int .u8) e3 w' b3 ok3 v3 x.f3) (h4 : Kd.V k34 34 w' b4 ok4 v4 x.f4) (hb : Below w.heap.size w w') (o3 : ∀ k, ok3 k → b3 ≤ k → b ≤ k) (o4 : ∀ k, ok4 k → b ≤ k) :
    Nw b w x (.returned (.agg #[.int .i64 x.f0, .int .i64 x.f1, .bool x.f2, v3, v4])) w' := by
  obtain ⟨A3, c3, rfl⟩ := Kd.R_slice h3
  obtain ⟨A4, c4, rfl⟩ := Kd.V_slice h4
  exact ⟨A3, c3, A4, c4, rfl, (Kd.R_reads' h3).2.1, Kd.F_mono (Kd.R_F (Kd.R_bound h3)) (fun k hk => o3 k hk.1 hk.2.1), (Kd.V_reads' h4).2.1, Kd.F_mono (Kd.V_F h4) o4, hb⟩

theorem list_nw {b : Nat} (l : List S34) (A : Option Addr) (c : Nat) (w : World) (h : Kd.F k34 w (fun k => b ≤ k) A l.length l) (hl : l.length ≤ c) (hbw : b ≤ w.heap.size) :
    Calls Tryz.prog 34 #[.slice A l.length c] w (Nw b w ⟨0, 16, true, [], l⟩) := by
  refine (spec_List.calls (fun k => b ≤ k) A c l _ _ _ _ _ w (Kd.V_mk hl h) rfl).mono ?_
  rintro e w' ⟨v3, v4, rfl, h3, h4, hb⟩
  exact nw_of ⟨0, 16, true, [], l⟩ h3 h4 hb (fun k _ h => Nat.le_trans hbw h) (fun k hk => hk.1.elim id (fun h => Nat.le_trans hbw h))
theorem operation_nw {b : Nat} (t : Int) (l : List S34) (A : Option Addr) (c : Nat) (w : World) (h : Kd.F k34 w (fun k => b ≤ k) A l.length l) (hl : l.length ≤ c) (hbw : b ≤ w.heap.size) :
    Calls Tryz.prog 53 #[.int .i64 t, .slice A l.length c] w (Nw b w ⟨1, t, true, [], l⟩) := by
  refine (spec_operation.calls t (fun k => b ≤ k) A c l _ _ _ _ _ w (Kd.V_mk hl h) rfl).mono ?_
  rintro e w' ⟨v3, v4, rfl, h3, h4, hb⟩
  exact nw_of ⟨1, t, true, [], l⟩ h3 h4 hb (fun k _ h => Nat.le_trans hbw h) (fun k hk => hk.1.elim id (fun h => Nat.le_trans hbw h))
/-- the end of a function that stores its packet and hands it back -/
theorem nw_end {b B n : Nat} {w W W3 : World} {x : S34} {A5 A6 : Option Addr} {c5 c6 : Nat} {z0 z1 z2 z3 z4 : Value} (hb : Below w.heap.size w W) (hn : w.heap.size ≤ n) (hnB : ∀ k, B ≤ k → k ≠ n) (hbB : b ≤ B)
    (hres : W.heap[n]? = some (.cells #[z0, z1, z2, z3, z4] 34 (0, 0))) (l5 : x.f3.length ≤ c5) (g5 : Kd.F (Kd.int .u8) W (fun k => B ≤ k) A5 x.f3.length x.f3) (l6 : x.f4.length ≤ c6) (g6 : Kd.F k34 W (fun k => B ≤ k) A6 x.f4.length x.f4)
    (hW3 : W3 = (((((W.setCell ⟨n, 0, none⟩ (.int .i64 x.f0)).setCell ⟨n, 1, none⟩ (.int .i64 x.f1)).setCell ⟨n, 2, none⟩ (.bool x.f2)).setCell ⟨n, 3, none⟩ (.slice A5 x.f3.length c5)).setCell ⟨n, 4, none⟩ (.slice A6 x.f4.length c6))) :
    W3.heap[n]? = some (.cells #[.int .i64 x.f0, .int .i64 x.f1, .bool x.f2, .slice A5 x.f3.length c5, .slice A6 x.f4.length c6] 34 (0, 0)) ∧ Nw b w x (.returned (.agg #[.int .i64 x.f0, .int .i64 x.f1, .bool x.f2, .slice A5 x.f3.length c5, .slice A6 x.f4.length c6])) W3 := by
  have h5 := blk_set (blk_set (blk_set (blk_set (blk_set hres 0 (.int .i64 x.f0)) 1 (.int .i64 x.f1)) 2 (.bool x.f2)) 3 (.slice A5 x.f3.length c5)) 4 (.slice A6 x.f4.length c6)
  rw [← hW3] at h5
  have key : Below w.heap.size w W3 := by
    rw [hW3]
    exact ((((hb.setCell (p := ⟨n, 0, none⟩) hn _).setCell (p := ⟨n, 1, none⟩) hn _).setCell (p := ⟨n, 2, none⟩) hn _).setCell (p := ⟨n, 3, none⟩) hn _).setCell (p := ⟨n, 4, none⟩) hn _
  have f5 : Kd.F (Kd.int .u8) W3 (fun k => B ≤ k) A5 x.f3.length x.f3 := by
    rw [hW3]
    exact Kd.F_far (Kd.F_far (Kd.F_far (Kd.F_far (Kd.F_far g5 (p := ⟨n, 0, none⟩) hnB _) (p := ⟨n, 1, none⟩) hnB _) (p := ⟨n, 2, none⟩) hnB _) (p := ⟨n, 3, none⟩) hnB _) (p := ⟨n, 4, none⟩) hnB _
  have f6 : Kd.F k34 W3 (fun k => B ≤ k) A6 x.f4.length x.f4 := by
    rw [hW3]
    exact Kd.F_far (Kd.F_far (Kd.F_far (Kd.F_far (Kd.F_far g6 (p := ⟨n, 0, none⟩) hnB _) (p := ⟨n, 1, none⟩) hnB _) (p := ⟨n, 2, none⟩) hnB _) (p := ⟨n, 3, none⟩) hnB _) (p := ⟨n, 4, none⟩) hnB _
  exact ⟨h5, A5, c5, A6, c6, rfl, l5, Kd.F_mono f5 (fun k hk => Nat.le_trans hbB hk), l6, Kd.F_mono f6 (fun k hk => Nat.le_trans hbB hk), key⟩

/-- the bytes of a text that was converted -/
theorem conv_F (W : World) (s : ByteArray) (hs : s.size ≤ 140737488355328) : Kd.F (Kd.int .u8) (Lib.bytesWorld W 5 s) (fun k => W.heap.size ≤ k) (some ⟨W.heap.size, 0, none⟩) (bytesOf s).length (bytesOf s) := by
  intro W' hW
  have h0 := bytes_reads W 5 s (by omega)
  rw [show s.size = (bytesOf s).length from (bytesOf_length s).symm] at h0
  have hc : (Kd.int .u8).C (Lib.bytesWorld W 5 s) (some ⟨W.heap.size, 0, none⟩) (bytesOf s).length (bytesOf s) := Kd.C_of_reads (d := 0) h0
  have hk : W'.heap[W.heap.size]? = (Lib.bytesWorld W 5 s).heap[W.heap.size]? := hW _ (Nat.le_refl _) (by rw [Lib.bytesWorld_size]; omega)
  obtain ⟨h1, h2, h3⟩ := hc
  refine ⟨h1, h2, fun hp => ?_⟩
  obtain ⟨ad, had, hall⟩ := h3 hp
  injection had with had
  subst had
  refine ⟨_, rfl, fun j p hj => ?_⟩
  obtain ⟨c, hc1, hc2, hc3⟩ := hall j p hj
  refine ⟨c, hc1, hc2, fun i u hu => ?_⟩
  rw [← hc3 i u hu]
  exact World.cell?_of_block (by rw [Lib.block_add]; exact hk)

set_option maxHeartbeats 1600000 in
set_option maxRecDepth 100000 in
theorem octets_nw (a0 : ByteArray) (w : World) (hs : a0.size ≤ 140737488355328) : Calls Tryz.prog 37 #[.string a0] w (Nw w.heap.size w ⟨0, 4, false, bytesOf a0, []⟩) := by
  have hcv := conv_bytes a0
  have hl : a0.size = (bytesOf a0).length := (bytesOf_length a0).symm
  obtain ⟨Z, hZ⟩ : ∃ Z : Obj, Z = (Obj.cells #[.int .i64 0, .int .i64 0, .bool false, .slice none 0 0, .slice none 0 0] 34) := ⟨_, rfl⟩
  have hz : (Lib.bytesWorld (w.alloc Z) 5 a0).heap[w.heap.size]? = some (.cells #[.int .i64 0, .int .i64 0, .bool false, .slice none 0 0, .slice none 0 0] 34 (0, 0)) := by
    rw [Lib.bytesWorld_at_old _ _ _ _ (by simp), hZ]
    exact blk_new _ _
  have hb1 : Below w.heap.size w (w.alloc Z) := below_alloc (Below.refl _ _) _
  have hb2 : Below w.heap.size w (Lib.bytesWorld (w.alloc Z) 5 a0) := bytes_below hb1 hb1.size _ _
  have hrd : Kd.F (Kd.int .u8) (Lib.bytesWorld (w.alloc Z) 5 a0) (fun k => w.heap.size + 1 ≤ k) (some ⟨w.heap.size + 1, 0, none⟩) (bytesOf a0).length (bytesOf a0) := by
    have := conv_F (w.alloc Z) a0 hs
    have e : (w.alloc Z).heap.size = w.heap.size + 1 := by simp
    rw [e] at this
    exact this
  have hcap : (bytesOf a0).length ≤ grownCap (w.alloc Z) (bytesOf a0).length 0 5 := grownCap_ge _ _ _ _
  subst hZ
  have k0 := blk_cell hz 0
  have k1 := blk_cell hz 1
  have k2 := blk_cell hz 2
  have k3 := blk_cell hz 3
  have k4 := blk_cell hz 4
  have kf0 := blk_frozen hz 0
  have kf1 := blk_frozen hz 1
  have kf2 := blk_frozen hz 2
  have kf3 := blk_frozen hz 3
  have kf4 := blk_frozen hz 4
  have HZ := Lib.hid hz
  have HB2 := Lib.hid hb2
  have HRD := Lib.hid hrd
  have HL := Lib.hid hl
  have HCAP := Lib.hid hcap
  clear hz hb1 hb2 hrd hl hcap
  go_enter Tryz.func37, Tryz.ntmps37
  go_wp2
  rw [HL.out]
  obtain ⟨h5, hend⟩ := nw_end (b := w.heap.size) (B := w.heap.size + 1) (n := w.heap.size) (x := ⟨0, 4, false, bytesOf a0, []⟩) HB2.out (Nat.le_refl _) (fun k hk => by omega) (Nat.le_succ _) HZ.out HCAP.out HRD.out (Nat.le_refl _) (Kd.F_nil _ _ _) rfl
  try simp only [Exit.inBlock, Exit.then]
  exact bodyPost_ret (results_c rfl _ _ _ _ _ _ _ rfl h5 Tryz.underlying34 rfl size34) rfl hend

/-- packets beside each other in a block -/
theorem F_block {W : World} {n b : Nat} {arr : Array Value} {xs : List S34} (hb : W.heap[n]? = some (.cells arr 34 (0, 0))) (hbn : b ≤ n) (hm : xs.length ≤ 9223372036854775807)
    (hr : Reps (fun x c => Kd.FK k34 W (fun k => b ≤ k) x c) 5 xs arr.toList) : Kd.F k34 W (fun k => b ≤ k) (some ⟨n, 0, none⟩) xs.length xs := by
  intro W' hW
  have hn : W'.heap[n]? = some (.cells arr 34 (0, 0)) := (hW n hbn (blk_lt hb)).trans hb
  refine ⟨rfl, hm, fun _ => ⟨⟨n, 0, none⟩, rfl, fun j p hj => ⟨(arr.toList.drop (j * 5)).take 5, ?_, hr.2 j p hj W' hW, fun i u hu => ?_⟩⟩⟩
  · have hjl := (List.getElem?_eq_some_iff.1 hj).1
    have := hr.1
    rw [List.length_take, List.length_drop, this]
    show min 5 (xs.length * 5 - j * 5) = 5
    omega
  · have hi : i < 5 := by
      have := (List.getElem?_eq_some_iff.1 hu).1
      rw [List.length_take] at this
      omega
    rw [List.getElem?_take_of_lt hi, List.getElem?_drop] at hu
    have := blk_cell hn (j * 5 + i)
    rw [← Array.getElem?_toList, hu] at this
    rw [← this]
    congr 1
    show Addr.add ⟨n, 0, none⟩ (j * 5 + i) = _
    unfold Addr.add
    simp
    intros
    omega

/-- one packet's cells -/
def cellsP (x : S34) (A3 : Option Addr) (c3 : Nat) (A4 : Option Addr) (c4 : Nat) : List Value := [.int .i64 x.f0, .int .i64 x.f1, .bool x.f2, .slice A3 x.f3.length c3, .slice A4 x.f4.length c4]
/-- a packet that can be laid into a block -/
def Lies (b : Nat) (W : World) (x : S34) (A3 : Option Addr) (c3 : Nat) (A4 : Option Addr) (c4 : Nat) : Prop :=
  x.f3.length ≤ c3 ∧ Kd.F (Kd.int .u8) W (fun k => b ≤ k) A3 x.f3.length x.f3 ∧ x.f4.length ≤ c4 ∧ Kd.F k34 W (fun k => b ≤ k) A4 x.f4.length x.f4
theorem Lies.below {b : Nat} {W W' : World} {x : S34} {A3 : Option Addr} {c3 : Nat} {A4 : Option Addr} {c4 : Nat} (h : Lies b W x A3 c3 A4 c4) (hb : Below W.heap.size W W') : Lies b W' x A3 c3 A4 c4 := ⟨h.1, Kd.F_below h.2.1 hb, h.2.2.1, Kd.F_below h.2.2.2 hb⟩
theorem Lies.low {b b' : Nat} {W : World} {x : S34} {A3 : Option Addr} {c3 : Nat} {A4 : Option Addr} {c4 : Nat} (h : Lies b W x A3 c3 A4 c4) (hb : b' ≤ b) : Lies b' W x A3 c3 A4 c4 := ⟨h.1, Kd.F_mono h.2.1 (fun k hk => Nat.le_trans hb hk), h.2.2.1, Kd.F_mono h.2.2.2 (fun k hk => Nat.le_trans hb hk)⟩
theorem Lies.fk {b : Nat} {W : World} {x : S34} {A3 : Option Addr} {c3 : Nat} {A4 : Option Addr} {c4 : Nat} (h : Lies b W x A3 c3 A4 c4) : Kd.FK k34 W (fun k => b ≤ k) x (cellsP x A3 c3 A4 c4) := k34_mkF W _ x h.1 h.2.1 h.2.2.1 h.2.2.2
theorem Nw.open {b : Nat} {w : World} {x : S34} {e : Ending} {w' : World} (h : Nw b w x e w') : ∃ A3 c3 A4 c4, e = .returned (.agg #[.int .i64 x.f0, .int .i64 x.f1, .bool x.f2, .slice A3 x.f3.length c3, .slice A4 x.f4.length c4]) ∧ Lies b w' x A3 c3 A4 c4 ∧ Below w.heap.size w w' := by
  obtain ⟨A3, c3, A4, c4, he, l3, h3, l4, h4, hb⟩ := h
  exact ⟨A3, c3, A4, c4, he, ⟨l3, h3, l4, h4⟩, hb⟩
theorem F2 {W : World} {n b : Nat} {x y : S34} {A3 : Option Addr} {c3 : Nat} {A4 : Option Addr} {c4 : Nat} {B3 : Option Addr} {d3 : Nat} {B4 : Option Addr} {d4 : Nat} (hb : W.heap[n]? = some (.cells #[.int .i64 x.f0, .int .i64 x.f1, .bool x.f2, .slice A3 x.f3.length c3, .slice A4 x.f4.length c4, .int .i64 y.f0, .int .i64 y.f1, .bool y.f2, .slice B3 y.f3.length d3, .slice B4 y.f4.length d4] 34 (0, 0))) (hbn : b ≤ n) (hx : Lies b W x A3 c3 A4 c4) (hy : Lies b W y B3 d3 B4 d4) : Kd.F k34 W (fun k => b ≤ k) (some ⟨n, 0, none⟩) [x, y].length [x, y] :=
  F_block hb hbn (by simp) (Reps.snoc (Reps.snoc (Reps.none _ 5) hx.fk rfl) hy.fk rfl)
/-- a string's packet -/
def tO (s : ByteArray) : S34 := ⟨0, 4, false, bytesOf s, []⟩
/-- a sequence -/
def tL (l : List S34) : S34 := ⟨0, 16, true, [], l⟩
/-- an operation -/
def tOp (t : Int) (l : List S34) : S34 := ⟨1, t, true, [], l⟩

end Go.Proofs.YteockihoefbmdaaGreatDoor.Ber
namespace Go.Proofs.YteockihoefbmdaaGreatDoor.Ber
open Go.RowKit Go.Proofs.YteockihoefbmdaaGreatDoorW.PrintWords Go.Proofs.YteockihoefbmdaaGreatDoor.PFnEncode Go.Proofs.YteockihoefbmdaaGreatDoor.Buf Go.Proofs.YteockihoefbmdaaGreatDoor.Pk Go.Proofs.YteockihoefbmdaaGreatDoor.Within Go.Proofs.YteockihoefbmdaaGreatDoor.Num
set_option linter.unusedVariables false
set_option linter.unusedSimpArgs false

set_option maxHeartbeats 1600000 in
set_option maxRecDepth 100000 in
theorem list_ex (A : Option Addr) (n c : Nat) (w : World) :
    Calls Tryz.prog 34 #[.slice A n c] w fun e w' => e = .returned (.agg #[.int .i64 0, .int .i64 16, .bool true, .slice none 0 0, .slice A n c]) ∧ Below w.heap.size w w' := by
  have h5 := blk_new w (.cells #[.int .i64 0, .int .i64 16, .bool true, .slice none 0 0, .slice A n c] 34)
  go_enter Tryz.func34, Tryz.ntmps34
  go_wp2
  try simp only [Exit.inBlock, Exit.then]
  exact bodyPost_ret (results_c rfl _ _ _ _ _ _ _ rfl h5 Tryz.underlying34 rfl size34) rfl ⟨rfl, below_alloc (Below.refl _ _) _⟩

theorem info_sp : (Tryz.prog.info? 34).map (fun i => (i.zero, i.size, i.bytes)) = some (some (.agg #[.int .i64 0, .int .i64 0, .bool false, .slice none 0 0, .slice none 0 0]), 5, 72) := by kernel_rfl
end Go.Proofs.YteockihoefbmdaaGreatDoor.Ber
namespace Go.Proofs.YteockihoefbmdaaGreatDoor.Ber
open Go.RowKit Go.Proofs.YteockihoefbmdaaGreatDoorW.PrintWords Go.Proofs.YteockihoefbmdaaGreatDoor.PFnEncode Go.Proofs.YteockihoefbmdaaGreatDoorW.PrintLast Go.Proofs.YteockihoefbmdaaGreatDoor.Tree Go.Proofs.YteockihoefbmdaaGreatDoor.Buf Go.Proofs.YteockihoefbmdaaGreatDoor.Pk Go.Proofs.YteockihoefbmdaaGreatDoor.Within Go.Proofs.YteockihoefbmdaaGreatDoor.Num
set_option linter.unusedVariables false
set_option linter.unusedSimpArgs false

mutual
/-- the package's packet of the same shape -/
def pl : S34 → S30
  | ⟨a, b, c, d, l⟩ => ⟨a, b, c, d, plL l⟩
def plL : List S34 → List S30
  | [] => []
  | x :: xs => pl x :: plL xs
end
mutual
theorem mir_pl : ∀ x : S34, mir (pl x) = x
  | ⟨a, b, c, d, l⟩ => by rw [pl, mir, mirL_pl l]
theorem mirL_pl : ∀ l : List S34, mirL (plL l) = l
  | [] => by rw [plL, mirL]
  | x :: xs => by rw [plL, mirL, mir_pl x, mirL_pl xs]
end
theorem plL_eq (l : List S34) : plL l = l.map pl := by
  induction l with
  | nil => rw [plL]; rfl
  | cons x xs ih => rw [plL, ih]; rfl
theorem pl_f3 (x : S34) : (pl x).f3 = x.f3 := by obtain ⟨a, b, c, d, l⟩ := x; rw [pl]
theorem pl_f0 (x : S34) : (pl x).f0 = x.f0 := by obtain ⟨a, b, c, d, l⟩ := x; rw [pl]
theorem pl_f1 (x : S34) : (pl x).f1 = x.f1 := by obtain ⟨a, b, c, d, l⟩ := x; rw [pl]
theorem pl_f2 (x : S34) : (pl x).f2 = x.f2 := by obtain ⟨a, b, c, d, l⟩ := x; rw [pl]
theorem pl_f4 (x : S34) : (pl x).f4 = plL x.f4 := by obtain ⟨a, b, c, d, l⟩ := x; rw [pl]
theorem len_tsL : ∀ l : List S34, l.length ≤ tsizeL l
  | [] => Nat.zero_le _
  | ⟨a, b, c, d, k⟩ :: xs => by
    have := len_tsL xs
    rw [tsizeL, tsize, List.length_cons]
    omega
/-- the blocks that a kid's memory may lie in -/
def okB (w0 w : World) (k : Nat) : Prop := (k < w0.heap.size ∨ w.heap.size ≤ k) ∧ k ≠ w.heap.size + 1 ∧ k ≠ w.heap.size + 2
/-- what a call leaves -/
def Pln (w0 w : World) (x : S34) (A3 : Option Addr) (c3 : Nat) (e : Ending) (w' : World) : Prop :=
  ∃ B4 d4, e = .returned (.agg #[.int .i64 x.f0, .int .i64 x.f1, .bool x.f2, .slice A3 x.f3.length c3, .slice B4 (plL x.f4).length d4]) ∧ (plL x.f4).length ≤ d4 ∧ Kd.F k30 w' (fun k => k < w0.heap.size ∨ w.heap.size ≤ k) B4 (plL x.f4).length (plL x.f4) ∧ Below w.heap.size w w'
/-- what stands at the loop's head -/
structure PInv (w0 w W : World) (x : S34) (A3 : Option Addr) (c3 : Nat) (v : Value) (l : List S30) : Prop where
  bel : Below w.heap.size w W
  res : W.heap[w.heap.size + 1]? = some (.cells #[.int .i64 0, .int .i64 0, .bool false, .slice none 0 0, .slice none 0 0] 30 (0, 0))
  hg : W.heap[w.heap.size + 2]? = some (.cells #[.int .i64 x.f0, .int .i64 x.f1, .bool x.f2, .slice A3 x.f3.length c3, v] 30 (0, 0))
  row : Kd.N k30 30 W w.heap.size (okB w0 w) v l
section
variable {w0 w W W' w1 : World} {x : S34} {A3 : Option Addr} {c3 : Nat} {v v1 : Value} {l : List S30}
theorem PInv.step (h : PInv w0 w W x A3 c3 v l) (hb : Below W.heap.size W W') : PInv w0 w W' x A3 c3 v l := ⟨h.bel.trans (hb.mono h.bel.size), blk_below h.res hb, blk_below h.hg hb, Kd.N_below h.row hb⟩
theorem PInv.ne (h : PInv w0 w W x A3 c3 v l) : some (w.heap.size + 2) ≠ v.ownBlock := Kd.N_away h.row (fun k hk => hk.2.2)
theorem PInv.ne1 (h : PInv w0 w W x A3 c3 v l) : some (w.heap.size + 1) ≠ v.ownBlock := Kd.N_away h.row (fun k hk => hk.2.1)
theorem PInv.fresh (h : PInv w0 w W x A3 c3 v l) : ∀ k, W.heap.size ≤ k → okB w0 w k := fun k hk => by
  have h1 := blk_lt h.hg
  exact ⟨.inr (by omega), by omega, by omega⟩
theorem PInv.app (h : PInv w0 w W x A3 c3 v l) {y : S30} (hR : Kd.N k30 30 w1 w.heap.size (okB w0 w) v1 (l ++ [y])) (hb : Below w.heap.size W w1) (hg : W.grownBy w1 v.ownBlock) : PInv w0 w (w1.setCell ⟨w.heap.size + 2, 4, none⟩ v1) x A3 c3 v1 (l ++ [y]) :=
  ⟨h.bel.trans (hb.setCell (p := ⟨w.heap.size + 2, 4, none⟩) (by show w.heap.size ≤ w.heap.size + 2; omega) v1), blk_far (blk_grown h.res hg h.ne1) (p := ⟨w.heap.size + 2, 4, none⟩) (by show w.heap.size + 1 ≠ w.heap.size + 2; omega) v1, blk_set (blk_grown h.hg hg h.ne) 4 v1, Kd.N_far hR (p := ⟨w.heap.size + 2, 4, none⟩) (fun k hk => hk.2.2) v1⟩
/-- a kid that was made behind the row -/
theorem PInv.kid (h : PInv w0 w W x A3 c3 v l) (hw : Below w0.heap.size w0 w) (hb : Below W.heap.size W W') {kid : S34} {K3 : Option Addr} {q3 : Nat} {B4 : Option Addr} {d4 : Nat} (l3 : kid.f3.length ≤ q3) (h3 : Kd.F (Kd.int .u8) w0 (fun k => k < w0.heap.size) K3 kid.f3.length kid.f3) (l4 : (plL kid.f4).length ≤ d4) (h4 : Kd.F k30 W' (fun k => k < w0.heap.size ∨ W.heap.size ≤ k) B4 (plL kid.f4).length (plL kid.f4)) :
    Kd.FK k30 W' (fun k => okB w0 w k ∧ some k ≠ v.ownBlock) (pl kid) [.int .i64 kid.f0, .int .i64 kid.f1, .bool kid.f2, .slice K3 kid.f3.length q3, .slice B4 (plL kid.f4).length d4] := by
  have hbw := h.bel.trans (hb.mono h.bel.size)
  have key : ∀ k, k < w0.heap.size ∨ W.heap.size ≤ k → okB w0 w k ∧ some k ≠ v.ownBlock := fun k hk => by
    have h1 := blk_lt h.hg
    have h2 := hw.size
    refine ⟨⟨hk.imp id (fun hk => by omega), by omega, by omega⟩, fun e => ?_⟩
    have h3 := Kd.N_lt h.row k e.symm
    rcases hk with hk | hk
    · exact absurd (Kd.N_base h.row k e.symm) (by omega)
    · omega
  have g3 : Kd.F (Kd.int .u8) W' (fun k => okB w0 w k ∧ some k ≠ v.ownBlock) K3 kid.f3.length kid.f3 := Kd.F_mono (Kd.F_step h3 (fun k hk _ => ((hbw.block k (Nat.lt_of_lt_of_le hk hw.size))).trans (hw.block k hk))) (fun k hk => key k (.inl hk))
  have g4 := Kd.F_mono h4 key
  obtain ⟨a, b, c, d, kk⟩ := kid
  have := k30_mkF W' (fun k => okB w0 w k ∧ some k ≠ v.ownBlock) (pl ⟨a, b, c, d, kk⟩) (A3 := K3) (c3 := q3) (by rw [pl]; exact l3) (by rw [pl]; exact g3) (A4 := B4) (c4 := d4) (by rw [pl]; exact l4) (by rw [pl]; exact g4)
  rw [pl] at this ⊢
  exact this
theorem pln_end {W3 : World} (h : PInv w0 w W x A3 c3 v (plL x.f4))
    (hW3 : W3 = (((((W.setCell ⟨w.heap.size + 1, 0, none⟩ (.int .i64 x.f0)).setCell ⟨w.heap.size + 1, 1, none⟩ (.int .i64 x.f1)).setCell ⟨w.heap.size + 1, 2, none⟩ (.bool x.f2)).setCell ⟨w.heap.size + 1, 3, none⟩ (.slice A3 x.f3.length c3)).setCell ⟨w.heap.size + 1, 4, none⟩ v)) :
    W3.heap[w.heap.size + 1]? = some (.cells #[.int .i64 x.f0, .int .i64 x.f1, .bool x.f2, .slice A3 x.f3.length c3, v] 30 (0, 0)) ∧ Pln w0 w x A3 c3 (.returned (.agg #[.int .i64 x.f0, .int .i64 x.f1, .bool x.f2, .slice A3 x.f3.length c3, v])) W3 := by
  have h5 := blk_set (blk_set (blk_set (blk_set (blk_set h.res 0 (.int .i64 x.f0)) 1 (.int .i64 x.f1)) 2 (.bool x.f2)) 3 (.slice A3 x.f3.length c3)) 4 v
  rw [← hW3] at h5
  obtain ⟨B4, d4, hv, hd, _⟩ := Kd.N_reads h.row
  subst hv
  have hn : ∀ i, w.heap.size ≤ (⟨w.heap.size + 1, i, none⟩ : Addr).block := fun i => Nat.le_succ _
  have hk : ∀ i k, okB w0 w k → k ≠ (⟨w.heap.size + 1, i, none⟩ : Addr).block := fun i k hk => hk.2.1
  refine ⟨h5, B4, d4, rfl, hd, Kd.F_mono (ok := okB w0 w) ?_ (fun k hk => hk.1), ?_⟩
  · rw [hW3]
    exact Kd.F_far (Kd.F_far (Kd.F_far (Kd.F_far (Kd.F_far (Kd.N_F h.row) (hk 0) _) (hk 1) _) (hk 2) _) (hk 3) _) (hk 4) _
  · rw [hW3]
    exact ((((h.bel.setCell (p := ⟨w.heap.size + 1, 0, none⟩) (hn 0) _).setCell (p := ⟨w.heap.size + 1, 1, none⟩) (hn 1) _).setCell (p := ⟨w.heap.size + 1, 2, none⟩) (hn 2) _).setCell (p := ⟨w.heap.size + 1, 3, none⟩) (hn 3) _).setCell (p := ⟨w.heap.size + 1, 4, none⟩) (hn 4) _
end
set_option maxHeartbeats 6400000 in
set_option maxRecDepth 100000 in
theorem plain_any (w0 : World) : ∀ (n : Nat) (x : S34), dpx x ≤ n → tsize x ≤ 1000000 → ∀ (A3 : Option Addr) (c3 : Nat) (A4 : Option Addr) (c4 : Nat) (w : World), (Kd.int .u8).C w0 A3 x.f3.length x.f3 → x.f3.length ≤ c3 → k34.C w0 A4 x.f4.length x.f4 → x.f4.length ≤ c4 → Below w0.heap.size w0 w →
    Calls Tryz.prog 10 #[.agg #[.int .i64 x.f0, .int .i64 x.f1, .bool x.f2, .slice A3 x.f3.length c3, .slice A4 x.f4.length c4]] w (Pln w0 w x A3 c3) := by
  intro n
  induction n with
  | zero =>
    rintro ⟨a, b, c, d, l⟩ hd
    rw [dpx] at hd
    omega
  | succ n ih =>
    intro x hd hts A3 c3 A4 c4 w h3 l3 h4 l4 hB0
    have hdl : dpxL x.f4 ≤ n := by
      obtain ⟨a, b, c, d, l⟩ := x
      rw [dpx] at hd
      simp only
      omega
    have htl : tsizeL x.f4 ≤ 1000000 := by
      obtain ⟨a, b, c, d, l⟩ := x
      rw [tsize] at hts
      simp only
      omega
    have hlen : x.f4.length ≤ 1000000 := Nat.le_trans (len_tsL _) htl
    have HIH : Hid (∀ y, y ∈ x.f4 → ∀ (K3 : Option Addr) (q3 : Nat) (K4 : Option Addr) (q4 : Nat) (W : World), (Kd.int .u8).C w0 K3 y.f3.length y.f3 → y.f3.length ≤ q3 → k34.C w0 K4 y.f4.length y.f4 → y.f4.length ≤ q4 → Below w0.heap.size w0 W → Calls Tryz.prog 10 #[.agg #[.int .i64 y.f0, .int .i64 y.f1, .bool y.f2, .slice K3 y.f3.length q3, .slice K4 y.f4.length q4]] W (Pln w0 W y K3 q3)) := Lib.hid (fun y hy => ih y (Nat.le_trans (dpxL_mem hy) hdl) (Nat.le_trans (tsizeL_mem hy) htl))
    have H4 := Lib.hid h4
    obtain ⟨Z, hZ⟩ : ∃ Z : Obj, Z = (Obj.cells #[.int .i64 0, .int .i64 0, .bool false, .slice none 0 0, .slice none 0 0] 30) := ⟨_, rfl⟩
    have hbx0 := heap_alloc_new w (.cells #[.int .i64 x.f0, .int .i64 x.f1, .bool x.f2, .slice A3 x.f3.length c3, .slice A4 x.f4.length c4] 34)
    have hs1 : (w.alloc (.cells #[.int .i64 x.f0, .int .i64 x.f1, .bool x.f2, .slice A3 x.f3.length c3, .slice A4 x.f4.length c4] 34)).heap.size = w.heap.size + 1 := by simp
    have hres0 := heap_alloc_new (w.alloc (.cells #[.int .i64 x.f0, .int .i64 x.f1, .bool x.f2, .slice A3 x.f3.length c3, .slice A4 x.f4.length c4] 34)) Z
    obtain ⟨W1, hW1⟩ : ∃ W1, W1 = (w.alloc (.cells #[.int .i64 x.f0, .int .i64 x.f1, .bool x.f2, .slice A3 x.f3.length c3, .slice A4 x.f4.length c4] 34)).alloc Z := ⟨_, rfl⟩
    have hbx : W1.heap[w.heap.size]? = some (.cells #[.int .i64 x.f0, .int .i64 x.f1, .bool x.f2, .slice A3 x.f3.length c3, .slice A4 x.f4.length c4] 34 (0, 0)) := by rw [hW1, Below.heap_alloc _ _ _ (by rw [hs1]; omega)]; exact hbx0
    rw [hs1, ← hW1, hZ] at hres0
    have hb1 : Below w.heap.size w W1 := by rw [hW1]; exact below_alloc (below_alloc (Below.refl _ _) _) _
    have hsz1 : W1.heap.size = w.heap.size + 2 := by rw [hW1]; simp
    have HBX := Lib.hid hbx
    have HRES := Lib.hid hres0
    have HSZ := Lib.hid hsz1
    have HB1 := Lib.hid hb1
    have b0 : W1.cell? ⟨w.heap.size, 0, none⟩ = some (.int .i64 x.f0) := blk_cell hbx 0
    have b1 : W1.cell? ⟨w.heap.size, 1, none⟩ = some (.int .i64 x.f1) := blk_cell hbx 1
    have b2 : W1.cell? ⟨w.heap.size, 2, none⟩ = some (.bool x.f2) := blk_cell hbx 2
    have b3 : W1.cell? ⟨w.heap.size, 3, none⟩ = some (.slice A3 x.f3.length c3) := blk_cell hbx 3
    have b4 : W1.cell? ⟨w.heap.size, 4, none⟩ = some (.slice A4 x.f4.length c4) := blk_cell hbx 4
    have b4a : ∀ o, (W1.alloc o).cell? ⟨w.heap.size, 4, none⟩ = some (.slice A4 x.f4.length c4) := fun o => (World.cell?_of_block (a := ⟨w.heap.size, 4, none⟩) (Below.heap_alloc W1 o _ (by show w.heap.size < _; omega))).trans b4
    subst hZ
    clear ih h4 hbx0 hs1 hbx hres0 hb1 hsz1 hd hts
    rw [hW1] at b0 b1 b2 b3 b4 b4a
    have HW1 := Lib.hid hW1
    clear hW1
    go_enter Tryz.func10, Tryz.ntmps10
    go_wp2
    rw [← HW1.out]
    obtain ⟨W3, hW3⟩ : ∃ W3, W3 = W1.alloc (.cells #[.int .i64 x.f0, .int .i64 x.f1, .bool x.f2, .slice A3 x.f3.length c3, .slice none 0 0] 30) := ⟨_, rfl⟩
    rw [← hW3]
    try rw [show w.heap.size + 1 + 1 = w.heap.size + 2 from rfl]
    have hI : PInv w0 w W3 x A3 c3 (.slice none 0 0) [] := by
      rw [hW3]
      refine ⟨below_alloc HB1.out _, blk_alloc HRES.out _, ?_, Kd.N_nil _ _ _ _ _⟩
      rw [← HSZ.out]
      exact blk_new _ _
    have HI := Lib.hid hI
    clear hI hW3 b0 b1 b2 b3 b4 b4a
    go_loopw [18] (fun i wr => ∃ (k : Nat) (v : Value), k ≤ x.f4.length ∧ i = .int .i64 k ∧ Hid (PInv w0 w wr x A3 c3 v (plL (x.f4.take k)))) (fun i _ => x.f4.length - (intOf i).toNat)
    case atStart => exact ⟨0, .slice none 0 0, Nat.zero_le _, rfl, HI⟩
    case round =>
      obtain ⟨k, v, hk, rfl, HV⟩ := hrel
      clear HI
      by_cases hlt : k < x.f4.length
      · have hBw : Below w0.heap.size w0 wr := hB0.trans (HV.out.bel.mono hB0.size)
        obtain ⟨ad, A3', c3', A4', c4', rfl, e0, e1, e2, e3, e4, m3, n3, m4, n4⟩ := at_T34 H4.out (k : Int) (by omega) (by omega)
        rw [Int.toNat_natCast] at e0 e1 e2 e3 e4
        obtain ⟨kid, hkid⟩ : ∃ kid, kid = rd_T34 x.f4 (k : Int) := ⟨_, rfl⟩
        have hkk : kid = x.f4[k] := by rw [hkid, rd_T34, Int.toNat_natCast, List.getD_eq_getElem?_getD, List.getElem?_eq_getElem hlt]; rfl
        rw [← hkid] at e0 e1 e2 e3 e4 m3 n3 m4 n4
        replace e0 := (hBw.cell (World.block_lt_of_cell? w0 _ e0)).trans e0
        replace e1 := (hBw.cell (World.block_lt_of_cell? w0 _ e1)).trans e1
        replace e2 := (hBw.cell (World.block_lt_of_cell? w0 _ e2)).trans e2
        replace e3 := (hBw.cell (World.block_lt_of_cell? w0 _ e3)).trans e3
        replace e4 := (hBw.cell (World.block_lt_of_cell? w0 _ e4)).trans e4
        have HST : Hid (plL (x.f4.take k) ++ [pl kid] = plL (x.f4.take (k + 1))) := Lib.hid (by rw [hkk, plL_eq, plL_eq, List.take_succ_eq_append_getElem hlt, List.map_append]; rfl)
        have HLE : Hid (((plL (x.f4.take k)).length + 1) * 72 ≤ 140737488355328) := Lib.hid (by rw [plL_eq, List.length_map, List.length_take]; omega)
        have HCC : Hid (∀ W, Below w0.heap.size w0 W → Calls Tryz.prog 10 #[.agg #[.int .i64 kid.f0, .int .i64 kid.f1, .bool kid.f2, .slice A3' kid.f3.length c3', .slice A4' kid.f4.length c4']] W (Pln w0 W kid A3' c3')) := Lib.hid (fun W hW => HIH.out kid (by rw [hkk]; exact List.getElem_mem hlt) A3' c3' A4' c4' W n3 m3 n4 m4 hW)
        have HLK : Hid (kid.f3.length ≤ c3' ∧ (Kd.int .u8).C w0 A3' kid.f3.length kid.f3) := Lib.hid ⟨m3, n3⟩
        obtain ⟨acc, hacc⟩ : ∃ acc, acc = plL (x.f4.take k) := ⟨_, rfl⟩
        rw [← hacc] at HST HLE HV
        clear hkid hkk hacc m3 n3 m4 n4
        go_wp2_with fail
        obtain ⟨W5, hW5⟩ : ∃ W5, W5 = wr.alloc (.cells #[.int .i64 kid.f0, .int .i64 kid.f1, .bool kid.f2, .slice A3' kid.f3.length c3', .slice A4' kid.f4.length c4'] 34) := ⟨_, rfl⟩
        rw [← hW5]
        have hb5 : Below wr.heap.size wr W5 := by rw [hW5]; exact below_alloc (Below.refl _ _) _
        have hk5 : W5.drew.heap[wr.heap.size]? = some (.cells #[.int .i64 kid.f0, .int .i64 kid.f1, .bool kid.f2, .slice A3' kid.f3.length c3', .slice A4' kid.f4.length c4'] 34 (0, 0)) := by rw [hW5]; exact blk_new _ _
        have HI5 := Lib.hid (HV.out.step (W' := W5.drew) hb5.drew)
        have HX5 := Lib.hid hk5
        have HC := Lib.hid (HCC.out W5.drew (hBw.trans (hb5.drew.mono hBw.size)))
        have HVX : Hid (some wr.heap.size ≠ v.ownBlock) := Lib.hid (fun e => by have := Kd.N_lt HV.out.row _ e.symm; omega)
        have s4 : W5.drew.cell? ⟨w.heap.size + 2, 4, none⟩ = some v := blk_cell HI5.out.hg 4
        have q0 := blk_cell hk5 0
        have q1 := blk_cell hk5 1
        have q2 := blk_cell hk5 2
        have q3 := blk_cell hk5 3
        have q4 := blk_cell hk5 4
        clear e0 e1 e2 e3 e4 hW5 hk5 hb5
        refine start_ (n := 8) (S := fun w' => w'.cell? ⟨w.heap.size + 2, 4, none⟩ = some v ∧ w'.cell? ⟨wr.heap.size, 0, none⟩ = some (.int .i64 kid.f0) ∧ w'.cell? ⟨wr.heap.size, 1, none⟩ = some (.int .i64 kid.f1) ∧ w'.cell? ⟨wr.heap.size, 2, none⟩ = some (.bool kid.f2) ∧ w'.cell? ⟨wr.heap.size, 3, none⟩ = some (.slice A3' kid.f3.length c3') ∧ w'.cell? ⟨wr.heap.size, 4, none⟩ = some (.slice A4' kid.f4.length c4')) (ds := [7]) #[nN,nN,nN,nN,nN,nN,nN,nN] (by kernel_rfl) rfl rfl ⟨s4, q0, q1, q2, q3, q4⟩ (fun hHeld => ?_)
        refine pure_ (i := 0) (N := some 22) (v := ?_) (a' := ?_) #[yY,nN,nN,nN,nN,nN,nN,nN] rfl rfl (by kernel_rfl) (fun _ _ _ h => h) (Or.inl ⟨by rfl, ?_⟩) ?_ ?_
        rotate_left
        · intro w'
          go_simp
          with_reducible rfl
        rotate_left
        · simp only [Act.put, List.setIfInBounds_toArray, List.set_cons_zero, List.set_cons_succ, i64_w, i32_w]
          rfl
        refine take_ (i := 1) (N := some 23) (v := ?_) (a' := ?_) #[yY,yY,nN,nN,nN,nN,nN,nN] rfl rfl (by kernel_rfl) (fun _ _ _ h => h) (Or.inl ⟨by rfl, ?_⟩) hHeld ?_ ?_
        rotate_left
        · rintro w' ⟨s0, s1, s2, s3, s4, s5⟩
          go_simp
          with_reducible rfl
        rotate_left
        · simp only [Act.put, List.setIfInBounds_toArray, List.set_cons_zero, List.set_cons_succ, i64_w, i32_w]
          rfl
        refine take_ (i := 2) (N := some 24) (v := ?_) (a' := ?_) #[yY,yY,yY,nN,nN,nN,nN,nN] rfl rfl (by kernel_rfl) (fun _ _ _ h => h) (Or.inl ⟨by rfl, ?_⟩) hHeld ?_ ?_
        rotate_left
        · rintro w' ⟨s0, s1, s2, s3, s4, s5⟩
          go_simp
          with_reducible rfl
        rotate_left
        · simp only [Act.put, List.setIfInBounds_toArray, List.set_cons_zero, List.set_cons_succ, i64_w, i32_w]
          rfl
        refine one_ (i := 3) (N := some 25) #[yY,yY,yY,yY,nN,nN,nN,nN] rfl rfl (by kernel_rfl) (by decide) (fun K hK => ?_)
        refine goes_ Tryz.func10 (by kernel_rfl) rfl #[.agg #[.int .i64 kid.f0, .int .i64 kid.f1, .bool kid.f2, .slice A3' kid.f3.length c3', .slice A4' kid.f4.length c4']] (by rfl) rfl rfl (by simp only [List.map_toArray, List.map_cons, List.map_nil]; rfl) ?_
        with_reducible refine (HC.out).mono ?_
        rintro e W6 h6
        obtain ⟨B4, d4, rfl, l6, f6, hB6⟩ := h6
        refine ⟨_, rfl, ?_⟩
        have HI6 := Lib.hid (HI5.out.step hB6)
        have HK6 := Lib.hid (HI5.out.kid hB0 hB6 HLK.out.1 (Kd.C_F (Kd.heap_int .u8) HLK.out.2) l6 f6)
        have HX6 := Lib.hid (blk_below HX5.out hB6)
        clear l6 f6 hB6
        refine hK.out _ _ ⟨blk_cell HI6.out.hg 4, blk_cell HX6.out 0, blk_cell HX6.out 1, blk_cell HX6.out 2, blk_cell HX6.out 3, blk_cell HX6.out 4⟩ (fun hHeld => ?_)
        clear hK K
        refine norm_ (a' := ?_) ?_ ?_
        rotate_left
        · show Act.put _ (some 25) _ = _
          simp only [Act.put, List.setIfInBounds_toArray, List.set_cons_zero, List.set_cons_succ, i64_w, i32_w]
          rfl
        refine one_ (i := 4) (N := some 26) #[yY,yY,yY,yY,yY,nN,nN,nN] rfl rfl (by kernel_rfl) (by decide) (fun K hK => ?_)
        refine value_ (w1 := ?_) (v := ?_) (by rfl) rfl ?_ ?_
        rotate_left 2
        · go_simp
          constructor
          · rfl
          · rfl
        refine hK.out _ _ ⟨blk_cell (blk_alloc HI6.out.hg _) 4, blk_cell (blk_alloc HX6.out _) 0, blk_cell (blk_alloc HX6.out _) 1, blk_cell (blk_alloc HX6.out _) 2, blk_cell (blk_alloc HX6.out _) 3, blk_cell (blk_alloc HX6.out _) 4⟩ (fun hHeld => ?_)
        clear hK K
        refine norm_ (a' := ?_) ?_ ?_
        rotate_left
        · show Act.put _ (some 26) _ = _
          simp only [Act.put, List.setIfInBounds_toArray, List.set_cons_zero, List.set_cons_succ, i64_w, i32_w]
          rfl
        refine one_ (i := 5) (N := some 27) #[yY,yY,yY,yY,yY,yY,nN,nN] rfl rfl (by kernel_rfl) (by decide) (fun K hK => ?_)
        refine Kd.N_append_step k30 (w0 := W6) (W := W6) w.heap.size (by rfl) (.tmp 23) (.tmp 26) 28 30 (.agg #[.int .i64 0, .int .i64 0, .bool false, .slice none 0 0, .slice none 0 0]) 72 (by rfl) Tryz.underlying28 info_ip rfl (show 0 < 5 by decide) (by decide) v acc (pl kid) _ (okB w0 w) _ (by rfl) (by rfl) HK6.out (fun _ h => h) HI6.out.fresh HI6.out.row (Below.refl _ _) HI6.out.bel.size HLE.out ?_
        intro v1 w1 hR hb hg hat
        have x0 : w1.cell? ⟨w.heap.size + 2, 4, none⟩ = some v := blk_cell (blk_grown HI6.out.hg hg HI6.out.ne) 4
        have xf : w1.frozen? ⟨w.heap.size + 2, 4, none⟩ = false := blk_frozen (blk_grown HI6.out.hg hg HI6.out.ne) 4
        have hx1 := blk_grown HX6.out hg HVX.out
        obtain ⟨Aq, cq, hvq⟩ := Kd.N_slice hR
        have h8 := HI6.out.app hR hb hg
        obtain ⟨n, hn⟩ : ∃ n, n = (acc ++ [pl kid]).length := ⟨_, rfl⟩
        rw [← hn] at hvq
        subst hvq
        have HI8 := Lib.hid h8
        have HX8 := Lib.hid hx1
        clear hR hb hg hat hn h8 hx1
        refine hK.out _ _ ⟨x0, blk_cell HX8.out 0, blk_cell HX8.out 1, blk_cell HX8.out 2, blk_cell HX8.out 3, blk_cell HX8.out 4⟩ (fun hHeld => ?_)
        clear hK K
        refine norm_ (a' := ?_) ?_ ?_
        rotate_left
        · show Act.put _ (some 27) _ = _
          simp only [Act.put, List.setIfInBounds_toArray, List.set_cons_zero, List.set_cons_succ, i64_w, i32_w]
          rfl
        refine pure_ (i := 6) (N := some 28) (v := ?_) (a' := ?_) #[yY,yY,yY,yY,yY,yY,yY,nN] rfl rfl (by kernel_rfl) (fun _ _ _ h => h) (Or.inl ⟨by rfl, ?_⟩) ?_ ?_
        rotate_left
        · intro w'
          go_simp
          with_reducible rfl
        rotate_left
        · simp only [Act.put, List.setIfInBounds_toArray, List.set_cons_zero, List.set_cons_succ, i64_w, i32_w]
          rfl
        refine last_ (i := 7) (N := none) #[yY,yY,yY,yY,yY,yY,yY,yY] rfl rfl (by kernel_rfl) (by decide) (fun K hK => ?_)
        refine skip_ (w1 := ?_) (by rfl) rfl ?_ ?_
        rotate_left
        · go_simp
          rfl
        refine hK.out _ _ ?_
        clear hK K
        refine done_ (by kernel_rfl) ?_
        go_wp2
        exact ⟨⟨k + 1, _, hlt, by first | rfl | go_num, Lib.hid (by rw [← HST.out]; exact HI8.out)⟩, by simp [intOf]; omega⟩
      · obtain rfl : k = x.f4.length := by omega
        rw [List.take_length] at HV
        obtain ⟨B4, d4, hv, hd, _⟩ := Kd.N_reads HV.out.row
        subst hv
        have o0 : wr.cell? ⟨w.heap.size + 2, 0, none⟩ = some (.int .i64 x.f0) := blk_cell HV.out.hg 0
        have o1 : wr.cell? ⟨w.heap.size + 2, 1, none⟩ = some (.int .i64 x.f1) := blk_cell HV.out.hg 1
        have o2 : wr.cell? ⟨w.heap.size + 2, 2, none⟩ = some (.bool x.f2) := blk_cell HV.out.hg 2
        have o3 : wr.cell? ⟨w.heap.size + 2, 3, none⟩ = some (.slice A3 x.f3.length c3) := blk_cell HV.out.hg 3
        have o4 : wr.cell? ⟨w.heap.size + 2, 4, none⟩ = some (.slice B4 (plL x.f4).length d4) := blk_cell HV.out.hg 4
        have kf0 : wr.frozen? ⟨w.heap.size + 1, 0, none⟩ = false := blk_frozen HV.out.res 0
        have kf1 : wr.frozen? ⟨w.heap.size + 1, 1, none⟩ = false := blk_frozen HV.out.res 1
        have kf2 : wr.frozen? ⟨w.heap.size + 1, 2, none⟩ = false := blk_frozen HV.out.res 2
        have kf3 : wr.frozen? ⟨w.heap.size + 1, 3, none⟩ = false := blk_frozen HV.out.res 3
        have kf4 : wr.frozen? ⟨w.heap.size + 1, 4, none⟩ = false := blk_frozen HV.out.res 4
        have k0 : wr.cell? ⟨w.heap.size + 1, 0, none⟩ = some (.int .i64 0) := blk_cell HV.out.res 0
        have k1 : wr.cell? ⟨w.heap.size + 1, 1, none⟩ = some (.int .i64 0) := blk_cell HV.out.res 1
        have k2 : wr.cell? ⟨w.heap.size + 1, 2, none⟩ = some (.bool false) := blk_cell HV.out.res 2
        have k3 : wr.cell? ⟨w.heap.size + 1, 3, none⟩ = some (.slice none 0 0) := blk_cell HV.out.res 3
        have k4 : wr.cell? ⟨w.heap.size + 1, 4, none⟩ = some (.slice none 0 0) := blk_cell HV.out.res 4
        clear hd
        go_wp2
        try simp only [Exit.inBlock, Exit.then]
        obtain ⟨h5, hend⟩ := pln_end HV.out rfl
        exact bodyPost_ret (results_u rfl _ _ _ _ _ _ _ rfl h5 Tryz.underlying30 rfl size_ip) rfl hend
end Go.Proofs.YteockihoefbmdaaGreatDoor.Ber
namespace Go.Proofs.YteockihoefbmdaaGreatDoor.Ber
open Go.RowKit Go.Proofs.YteockihoefbmdaaGreatDoorW.PrintWords Go.Proofs.YteockihoefbmdaaGreatDoor.PFnEncode Go.Proofs.YteockihoefbmdaaGreatDoor.Buf Go.Proofs.YteockihoefbmdaaGreatDoor.Pk Go.Proofs.YteockihoefbmdaaGreatDoor.Within Go.Proofs.YteockihoefbmdaaGreatDoor.Num
set_option linter.unusedVariables false
set_option linter.unusedSimpArgs false

/-- a packet in block g, its kids so far a row of the call's own (blocks behind g) -/
structure Acc (g : Nat) (W : World) (a0 a1 : Int) (a2 : Bool) (v : Value) (l : List S34) : Prop where
  hg : W.heap[g]? = some (.cells #[.int .i64 a0, .int .i64 a1, .bool a2, .slice none 0 0, v] 34 (0, 0))
  row : Kd.N k34 34 W (g + 1) (fun k => g < k) v l
section
variable {g : Nat} {W W' w1 : World} {a0 a1 : Int} {a2 : Bool} {v v1 : Value} {l : List S34}
theorem Acc.below (h : Acc g W a0 a1 a2 v l) (hb : Below W.heap.size W W') : Acc g W' a0 a1 a2 v l := ⟨blk_below h.hg hb, Kd.N_below h.row hb⟩
theorem Acc.ne (h : Acc g W a0 a1 a2 v l) : some g ≠ v.ownBlock := Kd.N_away h.row (fun k hk => Nat.ne_of_gt hk)
theorem Acc.lt (h : Acc g W a0 a1 a2 v l) : g < W.heap.size := blk_lt h.hg
theorem Acc.fresh (h : Acc g W a0 a1 a2 v l) : ∀ k, W.heap.size ≤ k → g < k := fun k hk => Nat.lt_of_lt_of_le h.lt hk
/-- an empty one -/
theorem acc_new (hg : W.heap[g]? = some (.cells #[.int .i64 a0, .int .i64 a1, .bool a2, .slice none 0 0, .slice none 0 0] 34 (0, 0))) : Acc g W a0 a1 a2 (.slice none 0 0) [] := ⟨hg, Kd.N_nil _ _ _ _ _⟩
/-- one more, behind an append and its store -/
theorem Acc.app (h : Acc g W a0 a1 a2 v l) {x : S34} (hR : Kd.N k34 34 w1 (g + 1) (fun k => g < k) v1 (l ++ [x])) (hg : W.grownBy w1 v.ownBlock) : Acc g (w1.setCell ⟨g, 4, none⟩ v1) a0 a1 a2 v1 (l ++ [x]) :=
  ⟨blk_set (blk_grown h.hg hg h.ne) 4 v1, Kd.N_far hR (p := ⟨g, 4, none⟩) (fun k hk => Nat.ne_of_gt hk) v1⟩
/-- the new kid: made behind the row's blocks -/
theorem Acc.kid {b : Nat} {x : S34} {A3 : Option Addr} {c3 : Nat} {A4 : Option Addr} {c4 : Nat} (hx : Lies b W' x A3 c3 A4 c4) (h : Acc g W a0 a1 a2 v l) (hb : W.heap.size ≤ b) : Kd.FK k34 W' (fun k => g < k ∧ some k ≠ v.ownBlock) x (cellsP x A3 c3 A4 c4) :=
  Kd.FK_mono hx.fk (fun k hk => ⟨Nat.lt_of_lt_of_le h.lt (Nat.le_trans hb hk), fun e => by have := Kd.N_lt h.row k e.symm; omega⟩)
/-- the packet as it is read -/
theorem Acc.lies (h : Acc g W a0 a1 a2 v l) : ∃ A c, v = .slice A l.length c ∧ Lies (g + 1) W ⟨a0, a1, a2, [], l⟩ none 0 A c := by
  obtain ⟨A, c, rfl, hc, _⟩ := Kd.N_reads h.row
  exact ⟨A, c, rfl, Nat.le_refl _, Kd.F_nil _ _ _, hc, Kd.F_mono (Kd.N_F h.row) (fun k hk => hk)⟩
end

set_option maxHeartbeats 1600000 in
set_option maxRecDepth 100000 in
theorem group_ex (A : Option Addr) (n c : Nat) (w : World) :
    Calls Tryz.prog 119 #[.slice A n c] w fun e w' => e = .returned (.agg #[.int .i64 0, .int .i64 17, .bool true, .slice none 0 0, .slice A n c]) ∧ Below w.heap.size w w' := by
  have h5 := blk_new w (.cells #[.int .i64 0, .int .i64 17, .bool true, .slice none 0 0, .slice A n c] 34)
  go_enter Tryz.func119, Tryz.ntmps119
  go_wp2
  try simp only [Exit.inBlock, Exit.then]
  exact bodyPost_ret (results_c rfl _ _ _ _ _ _ _ rfl h5 Tryz.underlying34 rfl size34) rfl ⟨rfl, below_alloc (Below.refl _ _) _⟩

end Go.Proofs.YteockihoefbmdaaGreatDoor.Ber
