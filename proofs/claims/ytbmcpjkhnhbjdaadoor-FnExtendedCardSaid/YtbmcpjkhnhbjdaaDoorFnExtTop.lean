/- laws.FnExtended answers true at every argument. · What an argument of the type []byte reads as. · The contract of the row of laws.FnExtended: whatever arguments, the law answers true, they read as before. No condition but the row's own: what it lists reads as the program's text lays it. · Closed facts on the program, each for itself, that every row of this seat wants. · The row of laws.FnExtended out of its lifted contract, and the tied card out of the row. No condition but the row's own: what it lists reads as the program's text lays it. -/
import Derived.Test.YtbmcpjkhnhbjdaaDoorFnExtA
import Derived.Test.YtbmcpjkhnhbjdaaDoorFnExtB
import Derived.Test.YtbmcpjkhnhbjdaaDoorSame
import Derived.Test.YtbmcpjkhnhbjdaaDoorOpen
import Derived.Test.YtbmcpjkhnhbjdaaDoorPFnEncodex0
import Derived.Test.YtbmcpjkhnhbjdaaDoorRows
import Derived.WalkKit
import Derived.ProofKit
import Derived.OpenShut
import Derived.ShutString
import Derived.ChangeOld
import Derived.Below
import Derived.SizedLaws
import Derived.Lay
import Derived.LaidMore
import Derived.JoinedOf
import Derived.Test.YtbmcpjkhnhbjdaaDoorCards
import Derived.Test.YtbmcpjkhnhbjdaaDoorTie
import Derived.SevenTiedAt
namespace Go.Proofs.YtbmcpjkhnhbjdaaDoor.Ber
open Go.RowKit Go.Proofs.YtbmcpjkhnhbjdaaDoorW.PrintWords Go.Proofs.YtbmcpjkhnhbjdaaDoor.PFnEncode Go.Proofs.YtbmcpjkhnhbjdaaDoor.Tree Go.Proofs.YtbmcpjkhnhbjdaaDoor.Buf Go.Proofs.YtbmcpjkhnhbjdaaDoor.Pk Go.Proofs.YtbmcpjkhnhbjdaaDoor.Within Go.Proofs.YtbmcpjkhnhbjdaaDoor.Num Go.Proofs.YtbmcpjkhnhbjdaaDoor.Ident
set_option linter.unusedVariables false
set_option linter.unusedSimpArgs false

theorem bytesOf_strOf (xs : List Int) (h : ∀ x ∈ xs, 0 ≤ x ∧ x < 256) : bytesOf (strOfNums xs) = xs := by
  have e : bytesOf (strOfNums xs) = xs.map (fun x => ((UInt8.ofNat x.toNat).toNat : Int)) := by
    simp [bytesOf, strOfNums]
  rw [e]
  conv => rhs; rw [← List.map_id xs]
  refine List.map_congr_left (fun x hx => ?_)
  have := h x hx
  rw [UInt8.toNat_ofNat']
  show ((x.toNat % 256 : Nat) : Int) = x
  omega
theorem bytesOf_range (s : ByteArray) : ∀ x ∈ bytesOf s, 0 ≤ x ∧ x < 256 := by
  intro x hx
  unfold bytesOf at hx
  obtain ⟨b, _, rfl⟩ := List.mem_map.1 hx
  have := UInt8.toNat_lt b
  omega
theorem lenBytes_range (n : Nat) (h : n < 256 ^ 7) : ∀ x ∈ lenBytes n, 0 ≤ x ∧ x < 256 := by
  intro x hx
  unfold lenBytes at hx
  split at hx
  · obtain rfl : x = n := by simpa using hx
    omega
  · rcases List.mem_cons.1 hx with rfl | hx
    · have := nd_le 6 n h
      omega
    · exact be_range _ _ x hx
theorem pk_range (cls tag : Int) (c : Bool) (d : List Int) (hi : ∀ x ∈ identT cls tag c, 0 ≤ x ∧ x < 256) (hd : ∀ x ∈ d, 0 ≤ x ∧ x < 256) (hl : d.length < 256 ^ 7) : ∀ x ∈ pkBytes cls tag c d, 0 ≤ x ∧ x < 256 := by
  intro x hx
  simp only [pkBytes, List.mem_append] at hx
  rcases hx with (hx | hx) | hx
  · exact hi x hx
  · exact lenBytes_range _ hl x hx
  · exact hd x hx
theorem bytesT_tX (i : Int) (s : ByteArray) : bytesT (tX i s) = pkBytes 2 i false (bytesOf s) := by
  simp [tX, bytesT, bytesL, pkBytes]
theorem bytesL_if (s : ByteArray) (i : Int) : bytesL (if s.toList.isEmpty then [] else [tX i s]) = flP s i := by
  unfold flP
  split
  · rfl
  · rw [bytesL, bytesL, List.append_nil, bytesT_tX]
theorem bytesL_kP (u o f : ByteArray) : bytesL (kP [u, o, f] 0) = flP u 0 ++ flP o 1 ++ flP f 2 := by
  rw [kP, kP, kP, kP, bytesL_append, bytesL_append, List.append_nil, bytesL_if, bytesL_if, bytesL_if, List.append_assoc]
  rfl
theorem bytesT_tL (l : List S33) : bytesT (tL l) = pkBytes 0 16 true (bytesL l) := by
  simp [tL, bytesT, pkBytes]
theorem flP_range (s : ByteArray) (i : Int) (hi : ∀ x ∈ identT 2 i false, 0 ≤ x ∧ x < 256) (hs : s.size ≤ 200) : (∀ x ∈ flP s i, 0 ≤ x ∧ x < 256) ∧ (flP s i).length ≤ (identT 2 i false).length + 209 := by
  unfold flP
  split
  · exact ⟨fun x hx => absurd hx (by simp), by simp⟩
  · refine ⟨pk_range 2 i false _ hi (bytesOf_range s) (by rw [bytesOf_length]; omega), ?_⟩
    have := lenBytes_le (bytesOf s).length (by rw [bytesOf_length]; omega)
    rw [bytesOf_length] at this
    simp only [pkBytes, List.length_append, bytesOf_length]
    omega
theorem id0 : identT 2 0 false = [128] := by decide
theorem id1 : identT 2 1 false = [129] := by decide
theorem id2 : identT 2 2 false = [130] := by decide
theorem ids : identT 0 16 true = [48] := by decide
theorem vP_bytes (u o f : ByteArray) (hu : u.size ≤ 200) (ho : o.size ≤ 200) (hf : f.size ≤ 200) : bytesOf (vP [u, o, f]) = pkBytes 0 16 true (flP u 0 ++ flP o 1 ++ flP f 2) ∧ (pkBytes 0 16 true (flP u 0 ++ flP o 1 ++ flP f 2)).length ≤ 700 := by
  obtain ⟨r0, l0⟩ := flP_range u 0 (by rw [id0]; decide) hu
  obtain ⟨r1, l1⟩ := flP_range o 1 (by rw [id1]; decide) ho
  obtain ⟨r2, l2⟩ := flP_range f 2 (by rw [id2]; decide) hf
  rw [id0] at l0
  rw [id1] at l1
  rw [id2] at l2
  simp only [List.length_singleton] at l0 l1 l2
  have hr : ∀ x ∈ flP u 0 ++ flP o 1 ++ flP f 2, 0 ≤ x ∧ x < 256 := by
    intro x hx
    simp only [List.mem_append] at hx
    rcases hx with (hx | hx) | hx
    · exact r0 x hx
    · exact r1 x hx
    · exact r2 x hx
  have hl : (flP u 0 ++ flP o 1 ++ flP f 2).length ≤ 630 := by simp only [List.length_append]; omega
  refine ⟨?_, ?_⟩
  · rw [vP, bytesT_tL, bytesL_kP]
    exact bytesOf_strOf _ (pk_range 0 16 true _ (by rw [ids]; decide) hr (by omega))
  · have := lenBytes_le (flP u 0 ++ flP o 1 ++ flP f 2).length (by omega)
    simp only [pkBytes, ids, List.length_append, List.length_singleton] at this hl ⊢
    omega
theorem mir_Pass (u o f : ByteArray) (hu : u.size ≤ 200) (ho : o.size ≤ 200) (hf : f.size ≤ 200) : mir (dPass u o f) = tOp 23 [tX 0 ⟨#[49, 46, 51, 46, 54, 46, 49, 46, 52, 46, 49, 46, 52, 50, 48, 51, 46, 49, 46, 49, 49, 46, 49]⟩, tX 1 (vP [u, o, f])] := by
  unfold dPass tOp tX
  rw [(vP_bytes u o f hu ho hf).1]
  simp [mir, mirL]
theorem dp_Pass (u o f : ByteArray) : tdp (mir (dPass u o f)) ≤ 60 := by
  unfold dPass
  simp [mir, mirL, tdp, tdpL]
theorem sz_Pass (u o f : ByteArray) (hu : u.size ≤ 200) (ho : o.size ≤ 200) (hf : f.size ≤ 200) : tsize (mir (dPass u o f)) ≤ 200000 := by
  have h := (vP_bytes u o f hu ho hf).2
  unfold dPass
  simp only [mir, mirL, tsize, tsizeL, bytesOf_length, List.length_nil]
  have : (⟨#[49, 46, 51, 46, 54, 46, 49, 46, 52, 46, 49, 46, 52, 50, 48, 51, 46, 49, 46, 49, 49, 46, 49]⟩ : ByteArray).size ≤ 100 := by decide
  omega
theorem mir_ExtN (oid : ByteArray) : mir (dExtN oid) = tOp 23 ([tX 0 oid] ++ ([] : List ByteArray).map (tX 1)) := by simp [dExtN, mir, mirL, tOp, tX]
theorem mir_ExtV (oid s : ByteArray) : mir (dExtV oid s) = tOp 23 ([tX 0 oid] ++ [s].map (tX 1)) := by simp [dExtV, mir, mirL, tOp, tX]
theorem dp_ExtN (oid : ByteArray) : tdp (mir (dExtN oid)) ≤ 60 := by simp [dExtN, mir, mirL, tdp, tdpL]
theorem dp_ExtV (oid s : ByteArray) : tdp (mir (dExtV oid s)) ≤ 60 := by simp [dExtV, mir, mirL, tdp, tdpL]
theorem sz_ExtN (oid : ByteArray) (h : oid.size ≤ 200) : tsize (mir (dExtN oid)) ≤ 200000 := by
  simp only [dExtN, mir, mirL, tsize, tsizeL, bytesOf_length, List.length_nil]
  omega
theorem sz_ExtV (oid s : ByteArray) (h : oid.size ≤ 200) (hs : s.size ≤ 200) : tsize (mir (dExtV oid s)) ≤ 200000 := by
  simp only [dExtV, mir, mirL, tsize, tsizeL, bytesOf_length, List.length_nil]
  omega
set_option maxHeartbeats 3200000 in
set_option maxRecDepth 100000 in
theorem fnExtN (oid : ByteArray) (xs : List Int) (u o f : ByteArray) (c : Nat) (w : World) (hC : (Kd.int .u8).C w none xs.length xs) (hxs : xs = []) :
    Calls Tryd.prog 7 #[.string oid, .slice none xs.length c, .string u, .string o, .string f] w fun e w' => e = .returned (.bool true) ∧ Below w.heap.size w w' := by
  have HB := Lib.hid (Below.refl w.heap.size w)
  have HXS := Lib.hid hxs
  clear hxs
  by_cases h0 : 2147483647 < oid.size
  · have e1 : decide (2147483647 < (oid.size : Int)) = true := decide_eq_true (by omega)
    have e2 : decide (2147483647 < oid.size) = true := decide_eq_true h0
    clear h0 hC
    go_enter Tryd.func7, Tryd.ntmps7
    go_wp2
    go_ret
    exact ⟨rfl, HB.out⟩
  have e0_1 : decide (2147483647 < (oid.size : Int)) = false := decide_eq_false (by omega)
  have e0_2 : decide (2147483647 < oid.size) = false := decide_eq_false h0
  by_cases h1 : 2147483647 < xs.length
  · have e1 : decide (2147483647 < (xs.length : Int)) = true := decide_eq_true (by omega)
    have e2 : decide (2147483647 < xs.length) = true := decide_eq_true h1
    clear h1 h0 hC
    go_enter Tryd.func7, Tryd.ntmps7
    go_wp2
    go_ret
    exact ⟨rfl, HB.out⟩
  have e1_1 : decide (2147483647 < (xs.length : Int)) = false := decide_eq_false (by omega)
  have e1_2 : decide (2147483647 < xs.length) = false := decide_eq_false h1
  by_cases h2 : 2147483647 < u.size
  · have e1 : decide (2147483647 < (u.size : Int)) = true := decide_eq_true (by omega)
    have e2 : decide (2147483647 < u.size) = true := decide_eq_true h2
    clear h2 h0 h1 hC
    go_enter Tryd.func7, Tryd.ntmps7
    go_wp2
    go_ret
    exact ⟨rfl, HB.out⟩
  have e2_1 : decide (2147483647 < (u.size : Int)) = false := decide_eq_false (by omega)
  have e2_2 : decide (2147483647 < u.size) = false := decide_eq_false h2
  by_cases h3 : 2147483647 < o.size
  · have e1 : decide (2147483647 < (o.size : Int)) = true := decide_eq_true (by omega)
    have e2 : decide (2147483647 < o.size) = true := decide_eq_true h3
    clear h3 h0 h1 h2 hC
    go_enter Tryd.func7, Tryd.ntmps7
    go_wp2
    go_ret
    exact ⟨rfl, HB.out⟩
  have e3_1 : decide (2147483647 < (o.size : Int)) = false := decide_eq_false (by omega)
  have e3_2 : decide (2147483647 < o.size) = false := decide_eq_false h3
  by_cases h4 : 2147483647 < f.size
  · have e1 : decide (2147483647 < (f.size : Int)) = true := decide_eq_true (by omega)
    have e2 : decide (2147483647 < f.size) = true := decide_eq_true h4
    clear h4 h0 h1 h2 h3 hC
    go_enter Tryd.func7, Tryd.ntmps7
    go_wp2
    go_ret
    exact ⟨rfl, HB.out⟩
  have e4_1 : decide (2147483647 < (f.size : Int)) = false := decide_eq_false (by omega)
  have e4_2 : decide (2147483647 < f.size) = false := decide_eq_false h4
  clear h0 h1 h2 h3 h4
  have hcv : (convert 24 9 (.slice none xs.length c)).run Tryd.prog w = .ok (.string (strOfNums xs)) w := Kd.C_string Tryd.underlying24 Tryd.underlying5 Tryd.underlying9 hC
  have HCV : Hid (∀ W, Below w.heap.size w W → (convert 24 9 (.slice none xs.length c)).run Tryd.prog W = .ok (.string (strOfNums xs)) W) := Lib.hid (fun W hb => Kd.C_string Tryd.underlying24 Tryd.underlying5 Tryd.underlying9 (Kd.C_below hC hb))
  obtain ⟨s, hs⟩ : ∃ s, s = strOfNums xs := ⟨_, rfl⟩
  have hsl : s.size = xs.length := by rw [hs, strOf_len]
  rw [← hs] at hcv HCV
  have HSH : Hid (∀ W, W = w.alloc (.cells #[.string oid, .string s, .string u, .string o, .string f] 9) → Calls Tryd.prog 10 #[.slice (some ⟨w.heap.size, 0, none⟩) 5 5] W fun e w' => e = .returned (.bool (shortT [oid, s, u, o, f])) ∧ Below w.heap.size w w') := Lib.hid (fun W hW => by
    have hb : W.heap[w.heap.size]? = some (.cells #[.string oid, .string s, .string u, .string o, .string f] 9 (0, 0)) := by rw [hW]; exact blk_new _ _
    have hB : Below w.heap.size w W := by rw [hW]; exact below_alloc (Below.refl _ _) _
    refine (short_any [oid, s, u, o, f] (some ⟨w.heap.size, 0, none⟩) 5 W (strs_block hb rfl (by simp)) (Nat.le_refl _) (by simp)).mono ?_
    rintro e w' ⟨he, hb'⟩
    exact ⟨he, hB.trans (hb'.mono hB.size)⟩)
  cases hsh : shortT [oid, s, u, o, f] with
  | false =>
    rw [hsh] at HSH
    clear hsh hC hs hsl HCV
    go_enter Tryd.func7, Tryd.ntmps7
    go_wp2_with (first
      | (go_at_call 10
         refine (HSH.out _ rfl).mono ?_
         rintro e W1 ⟨rfl, hB1⟩
         have HB1 := Lib.hid hB1
         clear hB1)
      | (go_at_call 11
         refine (works_any _).mono ?_
         rintro e W9 ⟨rfl, hB9⟩))
    go_ret
    exact ⟨rfl, HB1.out.trans (hB9.mono HB1.out.size)⟩
  | true =>
    rw [hsh] at HSH
    have hsz : oid.size ≤ 200 ∧ s.size ≤ 200 ∧ u.size ≤ 200 ∧ o.size ≤ 200 ∧ f.size ≤ 200 := by
      simp only [shortT, List.all_cons, List.all_nil, Bool.and_true, Bool.and_eq_true, decide_eq_true_eq] at hsh
      exact hsh.1
    clear hsh
    obtain ⟨z0, z1, z2, z3, z4⟩ := hsz
    have hne := neq_none xs.length c
    have HI0_ : Hid (∀ W, Below w.heap.size w W → Calls Tryd.prog 25 #[.string oid, .slice none xs.length c] W (OpRes W (dExtN oid))) := Lib.hid (fun W hb => by rw [HXS.out]; exact iExtN_any oid c W (by omega))
    have HSP0_ : Hid (∀ (A5 : Option Addr) (n c5 : Nat) (W : World), n = 0 → Kd.string.C W A5 n [] → Calls Tryd.prog 27 #[.string oid, .slice A5 n c5] W (Nw W.heap.size W (tOp 23 ([tX 0 oid] ++ ([] : List ByteArray).map (tX 1))))) := Lib.hid (fun A5 n c5 W hn h => by subst hn; exact sExt_nw oid [] A5 c5 W h (by omega) (fun t ht => absurd ht (by simp)) (by simp))
    have hmir0 := mir_ExtN oid
    have hdp0 := dp_ExtN oid
    have hts0 := sz_ExtN oid z0
    obtain ⟨p0, hp0⟩ : ∃ p, p = dExtN oid := ⟨_, rfl⟩
    obtain ⟨y0, hy0⟩ : ∃ y, y = tOp 23 ([tX 0 oid] ++ ([] : List ByteArray).map (tX 1)) := ⟨_, rfl⟩
    rw [← hp0] at HI0_ hmir0 hdp0 hts0
    rw [← hy0] at HSP0_ hmir0
    have HSA0 : Hid (∀ (A3 : Option Addr) (c3 : Nat) (A4 : Option Addr) (c4 : Nat) (B3 : Option Addr) (d3 : Nat) (B4 : Option Addr) (d4 : Nat) (W : World), p0.f3.length ≤ c3 → (Kd.int .u8).C W A3 p0.f3.length p0.f3 → p0.f4.length ≤ c4 → k27.C W A4 p0.f4.length p0.f4 → y0.f3.length ≤ d3 → (Kd.int .u8).C W B3 y0.f3.length y0.f3 → y0.f4.length ≤ d4 → k33.C W B4 y0.f4.length y0.f4 →
        Calls Tryd.prog 13 #[.agg #[.int .i64 p0.f0, .int .i64 p0.f1, .bool p0.f2, .slice A3 p0.f3.length c3, .slice A4 p0.f4.length c4], .bool true, .agg #[.int .i64 y0.f0, .int .i64 y0.f1, .bool y0.f2, .slice B3 y0.f3.length d3, .slice B4 y0.f4.length d4]] W fun e w' => e = .returned (.bool true) ∧ Below W.heap.size W w') :=
      Lib.hid (fun A3 c3 A4 c4 B3 d3 B4 d4 W q1 q2 q3 q4 q5 q6 q7 q8 => same_any p0 hdp0 hts0 A3 c3 A4 c4 y0 hmir0.symm B3 d3 B4 d4 W q1 q2 q3 q4 q5 q6 q7 q8)
    have HI1_ : Hid (∀ W, Calls Tryd.prog 26 #[.string u, .string o, .string f] W (OpRes W (dPass u o f))) := Lib.hid (fun W => iPass_any u o f W (by omega) (by omega) (by omega))
    have HSP1_ : Hid (∀ W, Calls Tryd.prog 28 #[.string u, .string o, .string f] W (Nw W.heap.size W (tOp 23 [tX 0 ⟨#[49, 46, 51, 46, 54, 46, 49, 46, 52, 46, 49, 46, 52, 50, 48, 51, 46, 49, 46, 49, 49, 46, 49]⟩, tX 1 (vP [u, o, f])]))) := Lib.hid (fun W => sPass_nw u o f W z2 z3 z4)
    have hmir1 := mir_Pass u o f z2 z3 z4
    have hdp1 := dp_Pass u o f
    have hts1 := sz_Pass u o f z2 z3 z4
    obtain ⟨p1, hp1⟩ : ∃ p, p = dPass u o f := ⟨_, rfl⟩
    obtain ⟨y1, hy1⟩ : ∃ y, y = tOp 23 [tX 0 ⟨#[49, 46, 51, 46, 54, 46, 49, 46, 52, 46, 49, 46, 52, 50, 48, 51, 46, 49, 46, 49, 49, 46, 49]⟩, tX 1 (vP [u, o, f])] := ⟨_, rfl⟩
    rw [← hp1] at HI1_ hmir1 hdp1 hts1
    rw [← hy1] at HSP1_ hmir1
    have HSA1 : Hid (∀ (A3 : Option Addr) (c3 : Nat) (A4 : Option Addr) (c4 : Nat) (B3 : Option Addr) (d3 : Nat) (B4 : Option Addr) (d4 : Nat) (W : World), p1.f3.length ≤ c3 → (Kd.int .u8).C W A3 p1.f3.length p1.f3 → p1.f4.length ≤ c4 → k27.C W A4 p1.f4.length p1.f4 → y1.f3.length ≤ d3 → (Kd.int .u8).C W B3 y1.f3.length y1.f3 → y1.f4.length ≤ d4 → k33.C W B4 y1.f4.length y1.f4 →
        Calls Tryd.prog 13 #[.agg #[.int .i64 p1.f0, .int .i64 p1.f1, .bool p1.f2, .slice A3 p1.f3.length c3, .slice A4 p1.f4.length c4], .bool true, .agg #[.int .i64 y1.f0, .int .i64 y1.f1, .bool y1.f2, .slice B3 y1.f3.length d3, .slice B4 y1.f4.length d4]] W fun e w' => e = .returned (.bool true) ∧ Below W.heap.size W w') :=
      Lib.hid (fun A3 c3 A4 c4 B3 d3 B4 d4 W q1 q2 q3 q4 q5 q6 q7 q8 => same_any p1 hdp1 hts1 A3 c3 A4 c4 y1 hmir1.symm B3 d3 B4 d4 W q1 q2 q3 q4 q5 q6 q7 q8)
    clear hp0 hy0 hmir0 hdp0 hts0 hp1 hy1 hmir1 hdp1 hts1 z0 z1 z2 z3 z4 hC hs hsl
    go_enter Tryd.func7, Tryd.ntmps7
    go_upto_region 8 with (first
      | (go_at_call 10
         refine (HSH.out _ rfl).mono ?_
         rintro e W1 ⟨rfl, hB1⟩
         have hcv1 := HCV.out W1 hB1
         have HB1 := Lib.hid hB1
         clear hB1))
    have hC5 : Kd.string.C W1 none 0 [] := Kd.C_nil _ _
    obtain ⟨W2, hW2⟩ : ∃ W2, W2 = W1 := ⟨_, rfl⟩
    rw [← hW2] at hC5 HB1 hcv1 ⊢
    have HB2 := HB1
    have HSP0 : Hid (∀ W, Below W2.heap.size W2 W → Calls Tryd.prog 27 #[.string oid, .slice none 0 0] W (Nw W.heap.size W y0)) := Lib.hid (fun W hb => HSP0_.out _ 0 0 W rfl (Kd.C_below hC5 hb))
    clear hW2 hC5
    have HSP1 : Hid (∀ W, Below W2.heap.size W2 W → Calls Tryd.prog 28 #[.string u, .string o, .string f] W (Nw W.heap.size W y1)) := Lib.hid (fun W hb => HSP1_.out W)
    have HI0 := Lib.hid (fun (W : World) (hb : Below W2.heap.size W2 W) => HI0_.out W (HB2.out.trans (hb.mono HB2.out.size)))
    have HI1 := Lib.hid (fun (W : World) (hb : Below W2.heap.size W2 W) => HI1_.out W)
    have HBR_ : Hid (Below W2.heap.size W2 W2) := Lib.hid (Below.refl _ _)
    clear HSP0_ HSP1_ HI0_ HI1_ HCV HSH
    go_wp2_with (first
      | (go_at_call 25
         with_reducible refine (HI0.out W2 HBR_.out).mono ?_
         rintro e R0 ⟨A0_3, c0_3, A0_4, c0_4, rfl, l3, h3, l4, h4, hB2⟩
         have HBR0 := Lib.hid (HBR_.out.trans (hB2.mono HBR_.out.size))
         have HF0 := Lib.hid (And.intro l3 (And.intro (Kd.F_now h3) (And.intro l4 (Kd.F_now h4))))
         clear l3 h3 l4 h4 hB2)
      | (go_at_call 26
         obtain ⟨V0, hV⟩ : ∃ V, V = R0.alloc (.cells #[.int .i64 p0.f0, .int .i64 p0.f1, .bool p0.f2, .slice A0_3 p0.f3.length c0_3, .slice A0_4 p0.f4.length c0_4] 27) := ⟨_, rfl⟩
         rw [← hV]
         have hbV : Below R0.heap.size R0 V0 := by rw [hV]; exact below_alloc (Below.refl _ _) _
         have HX0_0 : Hid (V0.heap[R0.heap.size]? = some (.cells #[.int .i64 p0.f0, .int .i64 p0.f1, .bool p0.f2, .slice A0_3 p0.f3.length c0_3, .slice A0_4 p0.f4.length c0_4] 27 (0, 0))) := Lib.hid (by rw [hV]; exact blk_new _ _)
         clear hV
         have HBV0 := Lib.hid (HBR0.out.trans (hbV.mono HBR0.out.size))
         have HFV0 := Lib.hid (And.intro HF0.out.1 (And.intro (Kd.C_below HF0.out.2.1 hbV) (And.intro HF0.out.2.2.1 (Kd.C_below HF0.out.2.2.2 hbV))))
         clear hbV
         with_reducible refine (HI1.out V0 HBV0.out).mono ?_
         rintro e R1 ⟨A1_3, c1_3, A1_4, c1_4, rfl, l3, h3, l4, h4, hB2⟩
         have HBR1 := Lib.hid (HBV0.out.trans (hB2.mono HBV0.out.size))
         have HF1 := Lib.hid (And.intro l3 (And.intro (Kd.F_now h3) (And.intro l4 (Kd.F_now h4))))
         have HX0_1 := Lib.hid (blk_below HX0_0.out hB2)
         have HF0_1 := Lib.hid (And.intro HFV0.out.1 (And.intro (Kd.C_below HFV0.out.2.1 hB2) (And.intro HFV0.out.2.2.1 (Kd.C_below HFV0.out.2.2.2 hB2))))
         clear l3 h3 l4 h4 hB2))
    obtain ⟨V1, hV⟩ : ∃ V, V = R1.alloc (.cells #[.int .i64 p1.f0, .int .i64 p1.f1, .bool p1.f2, .slice A1_3 p1.f3.length c1_3, .slice A1_4 p1.f4.length c1_4] 27) := ⟨_, rfl⟩
    rw [← hV]
    have hbV : Below R1.heap.size R1 V1 := by rw [hV]; exact below_alloc (Below.refl _ _) _
    have hX1 : V1.heap[R1.heap.size]? = some (.cells #[.int .i64 p1.f0, .int .i64 p1.f1, .bool p1.f2, .slice A1_3 p1.f3.length c1_3, .slice A1_4 p1.f4.length c1_4] 27 (0, 0)) := by rw [hV]; exact blk_new _ _
    clear hV
    have hX0 := blk_below HX0_1.out hbV
    have HBD : Hid (Below R1.heap.size R1 V1.drew) := Lib.hid hbV.drew
    have a0_0 : V1.drew.cell? ⟨R0.heap.size, 0, none⟩ = some (.int .i64 p0.f0) := blk_cell hX0 0
    have a0_1 : V1.drew.cell? ⟨R0.heap.size, 1, none⟩ = some (.int .i64 p0.f1) := blk_cell hX0 1
    have a0_2 : V1.drew.cell? ⟨R0.heap.size, 2, none⟩ = some (.bool p0.f2) := blk_cell hX0 2
    have a0_3 : V1.drew.cell? ⟨R0.heap.size, 3, none⟩ = some (.slice A0_3 p0.f3.length c0_3) := blk_cell hX0 3
    have a0_4 : V1.drew.cell? ⟨R0.heap.size, 4, none⟩ = some (.slice A0_4 p0.f4.length c0_4) := blk_cell hX0 4
    have HY0 : Hid (V1.drew.heap[R0.heap.size]? = some (.cells #[.int .i64 p0.f0, .int .i64 p0.f1, .bool p0.f2, .slice A0_3 p0.f3.length c0_3, .slice A0_4 p0.f4.length c0_4] 27 (0, 0))) := Lib.hid hX0
    have a1_0 : V1.drew.cell? ⟨R1.heap.size, 0, none⟩ = some (.int .i64 p1.f0) := blk_cell hX1 0
    have a1_1 : V1.drew.cell? ⟨R1.heap.size, 1, none⟩ = some (.int .i64 p1.f1) := blk_cell hX1 1
    have a1_2 : V1.drew.cell? ⟨R1.heap.size, 2, none⟩ = some (.bool p1.f2) := blk_cell hX1 2
    have a1_3 : V1.drew.cell? ⟨R1.heap.size, 3, none⟩ = some (.slice A1_3 p1.f3.length c1_3) := blk_cell hX1 3
    have a1_4 : V1.drew.cell? ⟨R1.heap.size, 4, none⟩ = some (.slice A1_4 p1.f4.length c1_4) := blk_cell hX1 4
    have HY1 : Hid (V1.drew.heap[R1.heap.size]? = some (.cells #[.int .i64 p1.f0, .int .i64 p1.f1, .bool p1.f2, .slice A1_3 p1.f3.length c1_3, .slice A1_4 p1.f4.length c1_4] 27 (0, 0))) := Lib.hid hX1
    have HBV := Lib.hid (HBR1.out.trans (HBD.out.mono HBR1.out.size))
    have HG0 := Lib.hid (And.intro HF0_1.out.1 (And.intro (Kd.C_below HF0_1.out.2.1 HBD.out) (And.intro HF0_1.out.2.2.1 (Kd.C_below HF0_1.out.2.2.2 HBD.out))))
    have HG1 := Lib.hid (And.intro HF1.out.1 (And.intro (Kd.C_below HF1.out.2.1 HBD.out) (And.intro HF1.out.2.2.1 (Kd.C_below HF1.out.2.2.2 HBD.out))))
    clear hbV hX0 hX1
    go_region_with (first
      | (go_at_call 27
         with_reducible refine (HSP0.out _ HBV.out).mono ?_
         rintro e S0 h5
         obtain ⟨B0_3, d0_3, B0_4, d0_4, rfl, hl5, hB5⟩ := h5.open
         have HBS0 := Lib.hid (HBV.out.trans (hB5.mono HBV.out.size))
         have hx0 := blk_below HY0.out hB5
         have u0_0_0 : S0.cell? ⟨R0.heap.size, 0, none⟩ = some (.int .i64 p0.f0) := blk_cell hx0 0
         have u0_0_1 : S0.cell? ⟨R0.heap.size, 1, none⟩ = some (.int .i64 p0.f1) := blk_cell hx0 1
         have u0_0_2 : S0.cell? ⟨R0.heap.size, 2, none⟩ = some (.bool p0.f2) := blk_cell hx0 2
         have u0_0_3 : S0.cell? ⟨R0.heap.size, 3, none⟩ = some (.slice A0_3 p0.f3.length c0_3) := blk_cell hx0 3
         have u0_0_4 : S0.cell? ⟨R0.heap.size, 4, none⟩ = some (.slice A0_4 p0.f4.length c0_4) := blk_cell hx0 4
         have HGS0_0 := Lib.hid (And.intro HG0.out.1 (And.intro (Kd.C_below HG0.out.2.1 hB5) (And.intro HG0.out.2.2.1 (Kd.C_below HG0.out.2.2.2 hB5))))
         have hx1 := blk_below HY1.out hB5
         have u0_1_0 : S0.cell? ⟨R1.heap.size, 0, none⟩ = some (.int .i64 p1.f0) := blk_cell hx1 0
         have u0_1_1 : S0.cell? ⟨R1.heap.size, 1, none⟩ = some (.int .i64 p1.f1) := blk_cell hx1 1
         have u0_1_2 : S0.cell? ⟨R1.heap.size, 2, none⟩ = some (.bool p1.f2) := blk_cell hx1 2
         have u0_1_3 : S0.cell? ⟨R1.heap.size, 3, none⟩ = some (.slice A1_3 p1.f3.length c1_3) := blk_cell hx1 3
         have u0_1_4 : S0.cell? ⟨R1.heap.size, 4, none⟩ = some (.slice A1_4 p1.f4.length c1_4) := blk_cell hx1 4
         have HYS1_0 := Lib.hid hx1
         have HGS1_0 := Lib.hid (And.intro HG1.out.1 (And.intro (Kd.C_below HG1.out.2.1 hB5) (And.intro HG1.out.2.2.1 (Kd.C_below HG1.out.2.2.2 hB5))))
         have HQ0 := Lib.hid (HSA0.out A0_3 c0_3 A0_4 c0_4 B0_3 d0_3 B0_4 d0_4 S0 HGS0_0.out.1 HGS0_0.out.2.1 HGS0_0.out.2.2.1 HGS0_0.out.2.2.2 hl5.1 (Kd.F_now hl5.2.1) hl5.2.2.1 (Kd.F_now hl5.2.2.2))
         clear h5 hl5 hB5 hx0 hx1)
      | (go_at_call 28
         with_reducible refine (HSP1.out _ HBQ0.out).mono ?_
         rintro e S1 h5
         obtain ⟨B1_3, d1_3, B1_4, d1_4, rfl, hl5, hB5⟩ := h5.open
         have HBS1 := Lib.hid (HBQ0.out.trans (hB5.mono HBQ0.out.size))
         have hx1 := blk_below HY1_0.out hB5
         have u1_1_0 : S1.cell? ⟨R1.heap.size, 0, none⟩ = some (.int .i64 p1.f0) := blk_cell hx1 0
         have u1_1_1 : S1.cell? ⟨R1.heap.size, 1, none⟩ = some (.int .i64 p1.f1) := blk_cell hx1 1
         have u1_1_2 : S1.cell? ⟨R1.heap.size, 2, none⟩ = some (.bool p1.f2) := blk_cell hx1 2
         have u1_1_3 : S1.cell? ⟨R1.heap.size, 3, none⟩ = some (.slice A1_3 p1.f3.length c1_3) := blk_cell hx1 3
         have u1_1_4 : S1.cell? ⟨R1.heap.size, 4, none⟩ = some (.slice A1_4 p1.f4.length c1_4) := blk_cell hx1 4
         have HGS1_1 := Lib.hid (And.intro HG1_0.out.1 (And.intro (Kd.C_below HG1_0.out.2.1 hB5) (And.intro HG1_0.out.2.2.1 (Kd.C_below HG1_0.out.2.2.2 hB5))))
         have HQ1 := Lib.hid (HSA1.out A1_3 c1_3 A1_4 c1_4 B1_3 d1_3 B1_4 d1_4 S1 HGS1_1.out.1 HGS1_1.out.2.1 HGS1_1.out.2.2.1 HGS1_1.out.2.2.2 hl5.1 (Kd.F_now hl5.2.1) hl5.2.2.1 (Kd.F_now hl5.2.2.2))
         clear h5 hl5 hB5 hx1)
      | (go_at_call 13
         first
         | (with_reducible refine HQ0.out.mono ?_
            rintro e Q0 ⟨rfl, hB6⟩
            have HBQ0 := Lib.hid (HBS0.out.trans (hB6.mono HBS0.out.size))
            have HY1_0 := Lib.hid (blk_below HYS1_0.out hB6)
            have v0_1_0 : Q0.cell? ⟨R1.heap.size, 0, none⟩ = some (.int .i64 p1.f0) := blk_cell HY1_0.out 0
            have v0_1_1 : Q0.cell? ⟨R1.heap.size, 1, none⟩ = some (.int .i64 p1.f1) := blk_cell HY1_0.out 1
            have v0_1_2 : Q0.cell? ⟨R1.heap.size, 2, none⟩ = some (.bool p1.f2) := blk_cell HY1_0.out 2
            have v0_1_3 : Q0.cell? ⟨R1.heap.size, 3, none⟩ = some (.slice A1_3 p1.f3.length c1_3) := blk_cell HY1_0.out 3
            have v0_1_4 : Q0.cell? ⟨R1.heap.size, 4, none⟩ = some (.slice A1_4 p1.f4.length c1_4) := blk_cell HY1_0.out 4
            have HG1_0 := Lib.hid (And.intro HGS1_0.out.1 (And.intro (Kd.C_below HGS1_0.out.2.1 hB6) (And.intro HGS1_0.out.2.2.1 (Kd.C_below HGS1_0.out.2.2.2 hB6))))
            clear hB6)
         | (with_reducible refine HQ1.out.mono ?_
            rintro e Q1 ⟨rfl, hB6⟩
            have HBQ1 := Lib.hid (HBS1.out.trans (hB6.mono HBS1.out.size))
            clear hB6)))
    all_goals (
      go_wp2
      go_ret
      exact ⟨rfl, HB2.out.trans (HBQ1.out.mono HB2.out.size)⟩)

set_option maxHeartbeats 3200000 in
set_option maxRecDepth 100000 in
theorem fnExtV (oid : ByteArray) (xs : List Int) (u o f : ByteArray) (a : Addr) (c : Nat) (w : World) (hC : (Kd.int .u8).C w (some a) xs.length xs) :
    Calls Tryd.prog 7 #[.string oid, .slice (some a) xs.length c, .string u, .string o, .string f] w fun e w' => e = .returned (.bool true) ∧ Below w.heap.size w w' := by
  have HB := Lib.hid (Below.refl w.heap.size w)
  by_cases h0 : 2147483647 < oid.size
  · have e1 : decide (2147483647 < (oid.size : Int)) = true := decide_eq_true (by omega)
    have e2 : decide (2147483647 < oid.size) = true := decide_eq_true h0
    clear h0 hC
    go_enter Tryd.func7, Tryd.ntmps7
    go_wp2
    go_ret
    exact ⟨rfl, HB.out⟩
  have e0_1 : decide (2147483647 < (oid.size : Int)) = false := decide_eq_false (by omega)
  have e0_2 : decide (2147483647 < oid.size) = false := decide_eq_false h0
  by_cases h1 : 2147483647 < xs.length
  · have e1 : decide (2147483647 < (xs.length : Int)) = true := decide_eq_true (by omega)
    have e2 : decide (2147483647 < xs.length) = true := decide_eq_true h1
    clear h1 h0 hC
    go_enter Tryd.func7, Tryd.ntmps7
    go_wp2
    go_ret
    exact ⟨rfl, HB.out⟩
  have e1_1 : decide (2147483647 < (xs.length : Int)) = false := decide_eq_false (by omega)
  have e1_2 : decide (2147483647 < xs.length) = false := decide_eq_false h1
  by_cases h2 : 2147483647 < u.size
  · have e1 : decide (2147483647 < (u.size : Int)) = true := decide_eq_true (by omega)
    have e2 : decide (2147483647 < u.size) = true := decide_eq_true h2
    clear h2 h0 h1 hC
    go_enter Tryd.func7, Tryd.ntmps7
    go_wp2
    go_ret
    exact ⟨rfl, HB.out⟩
  have e2_1 : decide (2147483647 < (u.size : Int)) = false := decide_eq_false (by omega)
  have e2_2 : decide (2147483647 < u.size) = false := decide_eq_false h2
  by_cases h3 : 2147483647 < o.size
  · have e1 : decide (2147483647 < (o.size : Int)) = true := decide_eq_true (by omega)
    have e2 : decide (2147483647 < o.size) = true := decide_eq_true h3
    clear h3 h0 h1 h2 hC
    go_enter Tryd.func7, Tryd.ntmps7
    go_wp2
    go_ret
    exact ⟨rfl, HB.out⟩
  have e3_1 : decide (2147483647 < (o.size : Int)) = false := decide_eq_false (by omega)
  have e3_2 : decide (2147483647 < o.size) = false := decide_eq_false h3
  by_cases h4 : 2147483647 < f.size
  · have e1 : decide (2147483647 < (f.size : Int)) = true := decide_eq_true (by omega)
    have e2 : decide (2147483647 < f.size) = true := decide_eq_true h4
    clear h4 h0 h1 h2 h3 hC
    go_enter Tryd.func7, Tryd.ntmps7
    go_wp2
    go_ret
    exact ⟨rfl, HB.out⟩
  have e4_1 : decide (2147483647 < (f.size : Int)) = false := decide_eq_false (by omega)
  have e4_2 : decide (2147483647 < f.size) = false := decide_eq_false h4
  clear h0 h1 h2 h3 h4
  have hcv : (convert 24 9 (.slice (some a) xs.length c)).run Tryd.prog w = .ok (.string (strOfNums xs)) w := Kd.C_string Tryd.underlying24 Tryd.underlying5 Tryd.underlying9 hC
  have HCV : Hid (∀ W, Below w.heap.size w W → (convert 24 9 (.slice (some a) xs.length c)).run Tryd.prog W = .ok (.string (strOfNums xs)) W) := Lib.hid (fun W hb => Kd.C_string Tryd.underlying24 Tryd.underlying5 Tryd.underlying9 (Kd.C_below hC hb))
  obtain ⟨s, hs⟩ : ∃ s, s = strOfNums xs := ⟨_, rfl⟩
  have hsl : s.size = xs.length := by rw [hs, strOf_len]
  rw [← hs] at hcv HCV
  have HSH : Hid (∀ W, W = w.alloc (.cells #[.string oid, .string s, .string u, .string o, .string f] 9) → Calls Tryd.prog 10 #[.slice (some ⟨w.heap.size, 0, none⟩) 5 5] W fun e w' => e = .returned (.bool (shortT [oid, s, u, o, f])) ∧ Below w.heap.size w w') := Lib.hid (fun W hW => by
    have hb : W.heap[w.heap.size]? = some (.cells #[.string oid, .string s, .string u, .string o, .string f] 9 (0, 0)) := by rw [hW]; exact blk_new _ _
    have hB : Below w.heap.size w W := by rw [hW]; exact below_alloc (Below.refl _ _) _
    refine (short_any [oid, s, u, o, f] (some ⟨w.heap.size, 0, none⟩) 5 W (strs_block hb rfl (by simp)) (Nat.le_refl _) (by simp)).mono ?_
    rintro e w' ⟨he, hb'⟩
    exact ⟨he, hB.trans (hb'.mono hB.size)⟩)
  cases hsh : shortT [oid, s, u, o, f] with
  | false =>
    rw [hsh] at HSH
    clear hsh hC hs hsl HCV
    go_enter Tryd.func7, Tryd.ntmps7
    go_wp2_with (first
      | (go_at_call 10
         refine (HSH.out _ rfl).mono ?_
         rintro e W1 ⟨rfl, hB1⟩
         have HB1 := Lib.hid hB1
         clear hB1)
      | (go_at_call 11
         refine (works_any _).mono ?_
         rintro e W9 ⟨rfl, hB9⟩))
    go_ret
    exact ⟨rfl, HB1.out.trans (hB9.mono HB1.out.size)⟩
  | true =>
    rw [hsh] at HSH
    have hsz : oid.size ≤ 200 ∧ s.size ≤ 200 ∧ u.size ≤ 200 ∧ o.size ≤ 200 ∧ f.size ≤ 200 := by
      simp only [shortT, List.all_cons, List.all_nil, Bool.and_true, Bool.and_eq_true, decide_eq_true_eq] at hsh
      exact hsh.1
    clear hsh
    obtain ⟨z0, z1, z2, z3, z4⟩ := hsz
    have hne := neq_some a xs.length c
    have HI0_ : Hid (∀ W, Below w.heap.size w W → Calls Tryd.prog 25 #[.string oid, .slice (some a) xs.length c] W (OpRes W (dExtV oid s))) := Lib.hid (fun W hb => by rw [hs]; exact iExtV_any oid xs a c W (Kd.C_below hC hb) (by omega) (by omega))
    have HSP0_ : Hid (∀ (A5 : Option Addr) (n c5 : Nat) (W : World), n = 1 → Kd.string.C W A5 n [s] → Calls Tryd.prog 27 #[.string oid, .slice A5 n c5] W (Nw W.heap.size W (tOp 23 ([tX 0 oid] ++ [s].map (tX 1))))) := Lib.hid (fun A5 n c5 W hn h => by subst hn; exact sExt_nw oid [s] A5 c5 W h (by omega) (fun t ht => by rw [List.mem_singleton.1 ht]; omega) (by simp))
    have hmir0 := mir_ExtV oid s
    have hdp0 := dp_ExtV oid s
    have hts0 := sz_ExtV oid s z0 z1
    obtain ⟨p0, hp0⟩ : ∃ p, p = dExtV oid s := ⟨_, rfl⟩
    obtain ⟨y0, hy0⟩ : ∃ y, y = tOp 23 ([tX 0 oid] ++ [s].map (tX 1)) := ⟨_, rfl⟩
    rw [← hp0] at HI0_ hmir0 hdp0 hts0
    rw [← hy0] at HSP0_ hmir0
    have HSA0 : Hid (∀ (A3 : Option Addr) (c3 : Nat) (A4 : Option Addr) (c4 : Nat) (B3 : Option Addr) (d3 : Nat) (B4 : Option Addr) (d4 : Nat) (W : World), p0.f3.length ≤ c3 → (Kd.int .u8).C W A3 p0.f3.length p0.f3 → p0.f4.length ≤ c4 → k27.C W A4 p0.f4.length p0.f4 → y0.f3.length ≤ d3 → (Kd.int .u8).C W B3 y0.f3.length y0.f3 → y0.f4.length ≤ d4 → k33.C W B4 y0.f4.length y0.f4 →
        Calls Tryd.prog 13 #[.agg #[.int .i64 p0.f0, .int .i64 p0.f1, .bool p0.f2, .slice A3 p0.f3.length c3, .slice A4 p0.f4.length c4], .bool true, .agg #[.int .i64 y0.f0, .int .i64 y0.f1, .bool y0.f2, .slice B3 y0.f3.length d3, .slice B4 y0.f4.length d4]] W fun e w' => e = .returned (.bool true) ∧ Below W.heap.size W w') :=
      Lib.hid (fun A3 c3 A4 c4 B3 d3 B4 d4 W q1 q2 q3 q4 q5 q6 q7 q8 => same_any p0 hdp0 hts0 A3 c3 A4 c4 y0 hmir0.symm B3 d3 B4 d4 W q1 q2 q3 q4 q5 q6 q7 q8)
    have HI1_ : Hid (∀ W, Calls Tryd.prog 26 #[.string u, .string o, .string f] W (OpRes W (dPass u o f))) := Lib.hid (fun W => iPass_any u o f W (by omega) (by omega) (by omega))
    have HSP1_ : Hid (∀ W, Calls Tryd.prog 28 #[.string u, .string o, .string f] W (Nw W.heap.size W (tOp 23 [tX 0 ⟨#[49, 46, 51, 46, 54, 46, 49, 46, 52, 46, 49, 46, 52, 50, 48, 51, 46, 49, 46, 49, 49, 46, 49]⟩, tX 1 (vP [u, o, f])]))) := Lib.hid (fun W => sPass_nw u o f W z2 z3 z4)
    have hmir1 := mir_Pass u o f z2 z3 z4
    have hdp1 := dp_Pass u o f
    have hts1 := sz_Pass u o f z2 z3 z4
    obtain ⟨p1, hp1⟩ : ∃ p, p = dPass u o f := ⟨_, rfl⟩
    obtain ⟨y1, hy1⟩ : ∃ y, y = tOp 23 [tX 0 ⟨#[49, 46, 51, 46, 54, 46, 49, 46, 52, 46, 49, 46, 52, 50, 48, 51, 46, 49, 46, 49, 49, 46, 49]⟩, tX 1 (vP [u, o, f])] := ⟨_, rfl⟩
    rw [← hp1] at HI1_ hmir1 hdp1 hts1
    rw [← hy1] at HSP1_ hmir1
    have HSA1 : Hid (∀ (A3 : Option Addr) (c3 : Nat) (A4 : Option Addr) (c4 : Nat) (B3 : Option Addr) (d3 : Nat) (B4 : Option Addr) (d4 : Nat) (W : World), p1.f3.length ≤ c3 → (Kd.int .u8).C W A3 p1.f3.length p1.f3 → p1.f4.length ≤ c4 → k27.C W A4 p1.f4.length p1.f4 → y1.f3.length ≤ d3 → (Kd.int .u8).C W B3 y1.f3.length y1.f3 → y1.f4.length ≤ d4 → k33.C W B4 y1.f4.length y1.f4 →
        Calls Tryd.prog 13 #[.agg #[.int .i64 p1.f0, .int .i64 p1.f1, .bool p1.f2, .slice A3 p1.f3.length c3, .slice A4 p1.f4.length c4], .bool true, .agg #[.int .i64 y1.f0, .int .i64 y1.f1, .bool y1.f2, .slice B3 y1.f3.length d3, .slice B4 y1.f4.length d4]] W fun e w' => e = .returned (.bool true) ∧ Below W.heap.size W w') :=
      Lib.hid (fun A3 c3 A4 c4 B3 d3 B4 d4 W q1 q2 q3 q4 q5 q6 q7 q8 => same_any p1 hdp1 hts1 A3 c3 A4 c4 y1 hmir1.symm B3 d3 B4 d4 W q1 q2 q3 q4 q5 q6 q7 q8)
    clear hp0 hy0 hmir0 hdp0 hts0 hp1 hy1 hmir1 hdp1 hts1 z0 z1 z2 z3 z4 hC hs hsl
    go_enter Tryd.func7, Tryd.ntmps7
    go_upto_region 8 with (first
      | (go_at_call 10
         refine (HSH.out _ rfl).mono ?_
         rintro e W1 ⟨rfl, hB1⟩
         have hcv1 := HCV.out W1 hB1
         have HB1 := Lib.hid hB1
         clear hB1))
    obtain ⟨W2, hW2⟩ : ∃ W2, W2 = W1.alloc (.cells #[.string s] 9) := ⟨_, rfl⟩
    rw [← hW2]
    have hb2 : Below W1.heap.size W1 W2 := by rw [hW2]; exact below_alloc (Below.refl _ _) _
    have hC5 : Kd.string.C W2 (some ⟨W1.heap.size, 0, none⟩) 1 [s] := strs_block (l := [s]) (by rw [hW2]; exact blk_new _ _) rfl (by simp)
    have HB2 := Lib.hid (HB1.out.trans (hb2.mono HB1.out.size))
    have HSP0 : Hid (∀ W, Below W2.heap.size W2 W → Calls Tryd.prog 27 #[.string oid, .slice (some ⟨W1.heap.size, 0, none⟩) 1 1] W (Nw W.heap.size W y0)) := Lib.hid (fun W hb => HSP0_.out _ 1 1 W rfl (Kd.C_below hC5 hb))
    clear hW2 hb2 hC5
    obtain ⟨B1, hB1⟩ : ∃ B1, B1 = W1.heap.size := ⟨_, rfl⟩
    rw [← hB1] at HSP0 ⊢
    clear hB1
    have HSP1 : Hid (∀ W, Below W2.heap.size W2 W → Calls Tryd.prog 28 #[.string u, .string o, .string f] W (Nw W.heap.size W y1)) := Lib.hid (fun W hb => HSP1_.out W)
    have HI0 := Lib.hid (fun (W : World) (hb : Below W2.heap.size W2 W) => HI0_.out W (HB2.out.trans (hb.mono HB2.out.size)))
    have HI1 := Lib.hid (fun (W : World) (hb : Below W2.heap.size W2 W) => HI1_.out W)
    have HBR_ : Hid (Below W2.heap.size W2 W2) := Lib.hid (Below.refl _ _)
    clear HSP0_ HSP1_ HI0_ HI1_ HCV HSH
    go_wp2_with (first
      | (go_at_call 25
         with_reducible refine (HI0.out W2 HBR_.out).mono ?_
         rintro e R0 ⟨A0_3, c0_3, A0_4, c0_4, rfl, l3, h3, l4, h4, hB2⟩
         have HBR0 := Lib.hid (HBR_.out.trans (hB2.mono HBR_.out.size))
         have HF0 := Lib.hid (And.intro l3 (And.intro (Kd.F_now h3) (And.intro l4 (Kd.F_now h4))))
         clear l3 h3 l4 h4 hB2)
      | (go_at_call 26
         obtain ⟨V0, hV⟩ : ∃ V, V = R0.alloc (.cells #[.int .i64 p0.f0, .int .i64 p0.f1, .bool p0.f2, .slice A0_3 p0.f3.length c0_3, .slice A0_4 p0.f4.length c0_4] 27) := ⟨_, rfl⟩
         rw [← hV]
         have hbV : Below R0.heap.size R0 V0 := by rw [hV]; exact below_alloc (Below.refl _ _) _
         have HX0_0 : Hid (V0.heap[R0.heap.size]? = some (.cells #[.int .i64 p0.f0, .int .i64 p0.f1, .bool p0.f2, .slice A0_3 p0.f3.length c0_3, .slice A0_4 p0.f4.length c0_4] 27 (0, 0))) := Lib.hid (by rw [hV]; exact blk_new _ _)
         clear hV
         have HBV0 := Lib.hid (HBR0.out.trans (hbV.mono HBR0.out.size))
         have HFV0 := Lib.hid (And.intro HF0.out.1 (And.intro (Kd.C_below HF0.out.2.1 hbV) (And.intro HF0.out.2.2.1 (Kd.C_below HF0.out.2.2.2 hbV))))
         clear hbV
         with_reducible refine (HI1.out V0 HBV0.out).mono ?_
         rintro e R1 ⟨A1_3, c1_3, A1_4, c1_4, rfl, l3, h3, l4, h4, hB2⟩
         have HBR1 := Lib.hid (HBV0.out.trans (hB2.mono HBV0.out.size))
         have HF1 := Lib.hid (And.intro l3 (And.intro (Kd.F_now h3) (And.intro l4 (Kd.F_now h4))))
         have HX0_1 := Lib.hid (blk_below HX0_0.out hB2)
         have HF0_1 := Lib.hid (And.intro HFV0.out.1 (And.intro (Kd.C_below HFV0.out.2.1 hB2) (And.intro HFV0.out.2.2.1 (Kd.C_below HFV0.out.2.2.2 hB2))))
         clear l3 h3 l4 h4 hB2))
    obtain ⟨V1, hV⟩ : ∃ V, V = R1.alloc (.cells #[.int .i64 p1.f0, .int .i64 p1.f1, .bool p1.f2, .slice A1_3 p1.f3.length c1_3, .slice A1_4 p1.f4.length c1_4] 27) := ⟨_, rfl⟩
    rw [← hV]
    have hbV : Below R1.heap.size R1 V1 := by rw [hV]; exact below_alloc (Below.refl _ _) _
    have hX1 : V1.heap[R1.heap.size]? = some (.cells #[.int .i64 p1.f0, .int .i64 p1.f1, .bool p1.f2, .slice A1_3 p1.f3.length c1_3, .slice A1_4 p1.f4.length c1_4] 27 (0, 0)) := by rw [hV]; exact blk_new _ _
    clear hV
    have hX0 := blk_below HX0_1.out hbV
    have HBD : Hid (Below R1.heap.size R1 V1.drew) := Lib.hid hbV.drew
    have a0_0 : V1.drew.cell? ⟨R0.heap.size, 0, none⟩ = some (.int .i64 p0.f0) := blk_cell hX0 0
    have a0_1 : V1.drew.cell? ⟨R0.heap.size, 1, none⟩ = some (.int .i64 p0.f1) := blk_cell hX0 1
    have a0_2 : V1.drew.cell? ⟨R0.heap.size, 2, none⟩ = some (.bool p0.f2) := blk_cell hX0 2
    have a0_3 : V1.drew.cell? ⟨R0.heap.size, 3, none⟩ = some (.slice A0_3 p0.f3.length c0_3) := blk_cell hX0 3
    have a0_4 : V1.drew.cell? ⟨R0.heap.size, 4, none⟩ = some (.slice A0_4 p0.f4.length c0_4) := blk_cell hX0 4
    have HY0 : Hid (V1.drew.heap[R0.heap.size]? = some (.cells #[.int .i64 p0.f0, .int .i64 p0.f1, .bool p0.f2, .slice A0_3 p0.f3.length c0_3, .slice A0_4 p0.f4.length c0_4] 27 (0, 0))) := Lib.hid hX0
    have a1_0 : V1.drew.cell? ⟨R1.heap.size, 0, none⟩ = some (.int .i64 p1.f0) := blk_cell hX1 0
    have a1_1 : V1.drew.cell? ⟨R1.heap.size, 1, none⟩ = some (.int .i64 p1.f1) := blk_cell hX1 1
    have a1_2 : V1.drew.cell? ⟨R1.heap.size, 2, none⟩ = some (.bool p1.f2) := blk_cell hX1 2
    have a1_3 : V1.drew.cell? ⟨R1.heap.size, 3, none⟩ = some (.slice A1_3 p1.f3.length c1_3) := blk_cell hX1 3
    have a1_4 : V1.drew.cell? ⟨R1.heap.size, 4, none⟩ = some (.slice A1_4 p1.f4.length c1_4) := blk_cell hX1 4
    have HY1 : Hid (V1.drew.heap[R1.heap.size]? = some (.cells #[.int .i64 p1.f0, .int .i64 p1.f1, .bool p1.f2, .slice A1_3 p1.f3.length c1_3, .slice A1_4 p1.f4.length c1_4] 27 (0, 0))) := Lib.hid hX1
    have HBV := Lib.hid (HBR1.out.trans (HBD.out.mono HBR1.out.size))
    have HG0 := Lib.hid (And.intro HF0_1.out.1 (And.intro (Kd.C_below HF0_1.out.2.1 HBD.out) (And.intro HF0_1.out.2.2.1 (Kd.C_below HF0_1.out.2.2.2 HBD.out))))
    have HG1 := Lib.hid (And.intro HF1.out.1 (And.intro (Kd.C_below HF1.out.2.1 HBD.out) (And.intro HF1.out.2.2.1 (Kd.C_below HF1.out.2.2.2 HBD.out))))
    clear hbV hX0 hX1
    go_region_with (first
      | (go_at_call 27
         with_reducible refine (HSP0.out _ HBV.out).mono ?_
         rintro e S0 h5
         obtain ⟨B0_3, d0_3, B0_4, d0_4, rfl, hl5, hB5⟩ := h5.open
         have HBS0 := Lib.hid (HBV.out.trans (hB5.mono HBV.out.size))
         have hx0 := blk_below HY0.out hB5
         have u0_0_0 : S0.cell? ⟨R0.heap.size, 0, none⟩ = some (.int .i64 p0.f0) := blk_cell hx0 0
         have u0_0_1 : S0.cell? ⟨R0.heap.size, 1, none⟩ = some (.int .i64 p0.f1) := blk_cell hx0 1
         have u0_0_2 : S0.cell? ⟨R0.heap.size, 2, none⟩ = some (.bool p0.f2) := blk_cell hx0 2
         have u0_0_3 : S0.cell? ⟨R0.heap.size, 3, none⟩ = some (.slice A0_3 p0.f3.length c0_3) := blk_cell hx0 3
         have u0_0_4 : S0.cell? ⟨R0.heap.size, 4, none⟩ = some (.slice A0_4 p0.f4.length c0_4) := blk_cell hx0 4
         have HGS0_0 := Lib.hid (And.intro HG0.out.1 (And.intro (Kd.C_below HG0.out.2.1 hB5) (And.intro HG0.out.2.2.1 (Kd.C_below HG0.out.2.2.2 hB5))))
         have hx1 := blk_below HY1.out hB5
         have u0_1_0 : S0.cell? ⟨R1.heap.size, 0, none⟩ = some (.int .i64 p1.f0) := blk_cell hx1 0
         have u0_1_1 : S0.cell? ⟨R1.heap.size, 1, none⟩ = some (.int .i64 p1.f1) := blk_cell hx1 1
         have u0_1_2 : S0.cell? ⟨R1.heap.size, 2, none⟩ = some (.bool p1.f2) := blk_cell hx1 2
         have u0_1_3 : S0.cell? ⟨R1.heap.size, 3, none⟩ = some (.slice A1_3 p1.f3.length c1_3) := blk_cell hx1 3
         have u0_1_4 : S0.cell? ⟨R1.heap.size, 4, none⟩ = some (.slice A1_4 p1.f4.length c1_4) := blk_cell hx1 4
         have HYS1_0 := Lib.hid hx1
         have HGS1_0 := Lib.hid (And.intro HG1.out.1 (And.intro (Kd.C_below HG1.out.2.1 hB5) (And.intro HG1.out.2.2.1 (Kd.C_below HG1.out.2.2.2 hB5))))
         have HQ0 := Lib.hid (HSA0.out A0_3 c0_3 A0_4 c0_4 B0_3 d0_3 B0_4 d0_4 S0 HGS0_0.out.1 HGS0_0.out.2.1 HGS0_0.out.2.2.1 HGS0_0.out.2.2.2 hl5.1 (Kd.F_now hl5.2.1) hl5.2.2.1 (Kd.F_now hl5.2.2.2))
         clear h5 hl5 hB5 hx0 hx1)
      | (go_at_call 28
         with_reducible refine (HSP1.out _ HBQ0.out).mono ?_
         rintro e S1 h5
         obtain ⟨B1_3, d1_3, B1_4, d1_4, rfl, hl5, hB5⟩ := h5.open
         have HBS1 := Lib.hid (HBQ0.out.trans (hB5.mono HBQ0.out.size))
         have hx1 := blk_below HY1_0.out hB5
         have u1_1_0 : S1.cell? ⟨R1.heap.size, 0, none⟩ = some (.int .i64 p1.f0) := blk_cell hx1 0
         have u1_1_1 : S1.cell? ⟨R1.heap.size, 1, none⟩ = some (.int .i64 p1.f1) := blk_cell hx1 1
         have u1_1_2 : S1.cell? ⟨R1.heap.size, 2, none⟩ = some (.bool p1.f2) := blk_cell hx1 2
         have u1_1_3 : S1.cell? ⟨R1.heap.size, 3, none⟩ = some (.slice A1_3 p1.f3.length c1_3) := blk_cell hx1 3
         have u1_1_4 : S1.cell? ⟨R1.heap.size, 4, none⟩ = some (.slice A1_4 p1.f4.length c1_4) := blk_cell hx1 4
         have HGS1_1 := Lib.hid (And.intro HG1_0.out.1 (And.intro (Kd.C_below HG1_0.out.2.1 hB5) (And.intro HG1_0.out.2.2.1 (Kd.C_below HG1_0.out.2.2.2 hB5))))
         have HQ1 := Lib.hid (HSA1.out A1_3 c1_3 A1_4 c1_4 B1_3 d1_3 B1_4 d1_4 S1 HGS1_1.out.1 HGS1_1.out.2.1 HGS1_1.out.2.2.1 HGS1_1.out.2.2.2 hl5.1 (Kd.F_now hl5.2.1) hl5.2.2.1 (Kd.F_now hl5.2.2.2))
         clear h5 hl5 hB5 hx1)
      | (go_at_call 13
         first
         | (with_reducible refine HQ0.out.mono ?_
            rintro e Q0 ⟨rfl, hB6⟩
            have HBQ0 := Lib.hid (HBS0.out.trans (hB6.mono HBS0.out.size))
            have HY1_0 := Lib.hid (blk_below HYS1_0.out hB6)
            have v0_1_0 : Q0.cell? ⟨R1.heap.size, 0, none⟩ = some (.int .i64 p1.f0) := blk_cell HY1_0.out 0
            have v0_1_1 : Q0.cell? ⟨R1.heap.size, 1, none⟩ = some (.int .i64 p1.f1) := blk_cell HY1_0.out 1
            have v0_1_2 : Q0.cell? ⟨R1.heap.size, 2, none⟩ = some (.bool p1.f2) := blk_cell HY1_0.out 2
            have v0_1_3 : Q0.cell? ⟨R1.heap.size, 3, none⟩ = some (.slice A1_3 p1.f3.length c1_3) := blk_cell HY1_0.out 3
            have v0_1_4 : Q0.cell? ⟨R1.heap.size, 4, none⟩ = some (.slice A1_4 p1.f4.length c1_4) := blk_cell HY1_0.out 4
            have HG1_0 := Lib.hid (And.intro HGS1_0.out.1 (And.intro (Kd.C_below HGS1_0.out.2.1 hB6) (And.intro HGS1_0.out.2.2.1 (Kd.C_below HGS1_0.out.2.2.2 hB6))))
            clear hB6)
         | (with_reducible refine HQ1.out.mono ?_
            rintro e Q1 ⟨rfl, hB6⟩
            have HBQ1 := Lib.hid (HBS1.out.trans (hB6.mono HBS1.out.size))
            clear hB6)))
    all_goals (
      go_wp2
      go_ret
      exact ⟨rfl, HB2.out.trans (HBQ1.out.mono HB2.out.size)⟩)

theorem fnExtended_any (oid : ByteArray) (xs : List Int) (u o f : ByteArray) (A : Option Addr) (c : Nat) (w : World) (hC : (Kd.int .u8).C w A xs.length xs) (hc : xs.length ≤ c) :
    Calls Tryd.prog 7 #[.string oid, .slice A xs.length c, .string u, .string o, .string f] w fun e w' => e = .returned (.bool true) ∧ Below w.heap.size w w' := by
  rcases A with _ | a
  · refine fnExtN oid xs u o f c w hC ?_
    rcases Nat.eq_zero_or_pos xs.length with h | h
    · exact List.eq_nil_of_length_eq_zero h
    · obtain ⟨ad, hA, _⟩ := hC.2.2 h
      cases hA
  · exact fnExtV oid xs u o f a c w hC
end Go.Proofs.YtbmcpjkhnhbjdaaDoor.Ber

namespace Go.Proofs.YtbmcpjkhnhbjdaaDoor.Open
open Go.RowKit Go.Proofs.YtbmcpjkhnhbjdaaDoorW.PrintWords Go.Proofs.YtbmcpjkhnhbjdaaDoor.PFnEncode
section
variable {H : Type} {enc : TypeId × Value → H} {W : World}
theorem opensB (N : Nat) : Opens enc Tryd.prog W (N + 1) 24 (Kd.slice 5 (Kd.int .u8)) (fun _ => True) :=
  (Opens.slice (opens_int N Tryd.underlying5) Tryd.underlying24 (by kernel_rfl) (of_decide_eq_true (by kernel_rfl))).imp (fun _ _ => trivial)
end
end Go.Proofs.YtbmcpjkhnhbjdaaDoor.Open

namespace Go.Proofs.YtbmcpjkhnhbjdaaDoor.RowFnExtended
open Go.ChangeShapes Go.WideShapes Go.ChangeAt Go.RowKit
open Go.ChangeMaps (open_string shut_string)
set_option linter.unusedVariables false
set_option linter.unusedSimpArgs false
theorem own : ownKnob Tryd.prog.godebug = none := by kernel_rfl
theorem laidOut : laidOutB Tryd.prog = true := by kernel_rfl
set_option maxRecDepth 100000 in
theorem lifted (os : Os) (started : os.Started) (H : Type) (enc : TypeId × Value → H) :
    ReturnsInHanded {} Tryd.checked os 7 .any (fun w args => (Rows.fnExtendedSpec.pre enc Tryd.prog Tryd.f7 [] false w args ∧ laidMetH Tryd.prog Rows.fnExtendedRow.laid w) ∧ sizedMet enc Tryd.prog Tryd.f7 (OpenSpec.ofChange Rows.fnExtendedSpec) false w args)
      (Rows.fnExtendedSpec.post enc Tryd.prog Tryd.f7 false true false false) := by
  refine returnsInHanded_of_change_and (C := Tryd.checked) (X := fun w _ => laidMetH Tryd.prog Rows.fnExtendedRow.laid w) (fun _ _ _ hh h => h.of_heap hh) own started (by kernel_rfl) Tryd.func7
    (ChangeSpec.witness_shaped (enc := enc) (C := Tryd.checked) (os := os) (X := fun w _ => laidMetH Tryd.prog Rows.fnExtendedRow.laid w) false (World.laidAll Tryd.prog os Rows.fnExtendedRow.laid) #[.string ByteArray.empty, .slice none 0 0, .string ByteArray.empty, .string ByteArray.empty, .string ByteArray.empty] 8 (World.laidAll_os _ _ _)
      (World.shaped_of_ZipB (by kernel_rfl) (by kernel_rfl)) (by kernel_rfl) (by kernel_rfl) (by kernel_rfl)
      (by rw [MakeChecks.laidMetH_plain _ _ _ (by kernel_rfl)]; exact laidMet_laidAll _ (by kernel_rfl) (by kernel_rfl))) ?_
  intro W base args ds gs before hval0 hW _ hsz0 _ _
  have hval : ∀ (j : Nat) t v, Tryd.f7.params[j]? = some t → args[j]? = some v → Value.okWide Tryd.prog W .any base t v := hval0
  have hsz : (DataW.weightsEach Tryd.prog (Tryd.f7.params.toList ++ Rows.fnExtendedSpec.plain.varTypes Tryd.prog) (ds ++ gs)).all (· ≤ reachBytes) = true := hsz0
  have hW' := hW
  obtain ⟨p, q, hA0, hV, rfl, _, _⟩ := hW
  have hA : DataW.TrodAll enc Tryd.prog W 0 (fun _ => true) true Tryd.f7.params.toList args.toList ds p := hA0
  rw [Tryd.params7] at hA hval hsz
  obtain ⟨v0, vs0, d0, ds0, p0, q0, hargs, rfl, rfl, h0, r0⟩ := trodAll_cons hA
  obtain ⟨v1, vs1, d1, ds1, p1, q1, rfl, rfl, rfl, h1, r1⟩ := trodAll_cons r0
  obtain ⟨v2, vs2, d2, ds2, p2, q2, rfl, rfl, rfl, h2, r2⟩ := trodAll_cons r1
  obtain ⟨v3, vs3, d3, ds3, p3, q3, rfl, rfl, rfl, h3, r3⟩ := trodAll_cons r2
  obtain ⟨v4, vs4, d4, ds4, p4, q4, rfl, rfl, rfl, h4, r4⟩ := trodAll_cons r3
  obtain ⟨rfl, rfl, rfl⟩ := trodAll_nil r4
  obtain rfl : args = #[v0, v1, v2, v3, v4] := by cases args; simp_all
  obtain ⟨rfl, rfl⟩ := trodVars_none hV
  have hw : ∀ y ∈ DataW.weightsEach Tryd.prog [9, 24, 9, 9, 9] [d0, d1, d2, d3, d4], y ≤ reachBytes := fun y hy => of_decide_eq_true (List.all_eq_true.1 hsz y hy)
  obtain ⟨a0, rfl, rfl, rfl, y0⟩ := open_string Tryd.underlying9 (hval 0 9 v0 rfl rfl) h0
  have lt1 : ∀ x ∈ p1, x.block < W.heap.size := by obtain ⟨m, hm⟩ := h1; exact DataW.trod_lt m _ _ _ hm
  obtain ⟨A1, l1, c1, rfl⟩ := okWide_slice Tryd.underlying24 (hval 1 24 v1 rfl rfl)
  obtain ⟨f1, hf1⟩ := h1
  obtain ⟨x1, ⟨B1, e1, hk1, g1, m1⟩, _⟩ := (Open.opensB (enc := enc) (W := W) f1).down (Nat.le_add_right _ 1) f1 (Nat.le_refl _) _ d1 p1 hf1 (fun y hy => hw y (List.mem_append.2 (.inr (List.mem_append.2 (.inl hy)))))
  have hv1 : Value.slice A1 l1 c1 = .slice B1 x1.length e1 := by simpa [Value.cells] using hk1
  injection hv1 with qa1 qb1 qc1
  subst qa1 qb1 qc1
  obtain ⟨a2, rfl, rfl, rfl, y2⟩ := open_string Tryd.underlying9 (hval 2 9 v2 rfl rfl) h2
  obtain ⟨a3, rfl, rfl, rfl, y3⟩ := open_string Tryd.underlying9 (hval 3 9 v3 rfl rfl) h3
  obtain ⟨a4, rfl, rfl, rfl, y4⟩ := open_string Tryd.underlying9 (hval 4 9 v4 rfl rfl) h4
  clear hA0 hval0 hsz0
  refine (Ber.fnExtended_any a0 x1 a2 a3 a4 A1 c1 W m1 g1).mono fun e W' ⟨he, bel⟩ => ?_
  subst he
  exact ⟨_, rfl, _, _, _, [], _, [], hW', trodAll_mk1 (shut_bool Tryd.underlying4 _), (trodAll_cons_mk (shut_string Tryd.underlying9 y0) (trodAll_cons_mk (Below.trod laidOut (by kernel_rfl) (of_decide_eq_true (by kernel_rfl)) ⟨f1, hf1⟩ bel lt1) (trodAll_cons_mk (shut_string Tryd.underlying9 y2) (trodAll_cons_mk (shut_string Tryd.underlying9 y3) (trodAll_cons_mk (shut_string Tryd.underlying9 y4) trodAll_mk0))))), rfl, bel.frame _, fun h => by cases h⟩
end Go.Proofs.YtbmcpjkhnhbjdaaDoor.RowFnExtended

namespace Go.Proofs.YtbmcpjkhnhbjdaaDoor.Facts
theorem joined_of {P : Program} {f : FuncId} {fn : Func} {s : ChangeSpec} {c : OpenClaim} 
    (h0 : (c.wf (OpenSpec.ofChange s)) = true)
    (h1 : (laidOutB P) = true)
    (h2 : (mapsRowed P) = true)
    (h3 : (fn.params.all (P.readableRec ·)) = true)
    (h4 : (namedTie P c.named s.vars) = true)
    (h5 : ((c.stops == [])) = true)
    (h6 : ((P.stops == [])) = true)
    (h7 : ((c.knobs == [])) = true)
    (h8 : ((P.stopKnobs == [])) = true)
    (h9 : ((c.inPlace == P.inPlace f)) = true)
    (h10 : ((c.unfollowed == P.unfollowed f)) = true)
    (h11 : ((c.recurses == P.recurses f)) = true)
    (h12 : ((c.named == P.varsNamed f)) = true)
    (h13 : ((c.maps == (fn.params.toList ++ s.plain.varTypes P).any (P.mapsRec ·))) = true)
    (h14 : ((c.ifaces == (fn.params.toList ++ s.plain.varTypes P).any (P.ifacesRec ·))) = true)
    (h15 : ((c.mapsOut == P.mapsAmong fn.resultTypes.toList)) = true)
    (h16 : ((c.loops == (fn.params.toList ++ s.plain.varTypes P).any (P.loopsFrom ·))) = true)
    (h17 : ((c.wideKeys == (fn.params.toList ++ s.plain.varTypes P ++ fn.resultTypes.toList).any (P.wideKeysFrom ·))) = true)
    (h18 : (s.vars.all (P.varReadable ·)) = true)
    (h19 : (fn.resultTypes.all (fun t => P.readableRec t && decide (t < P.types.size))) = true)
    (h20 : ((c.ifacesOut == fn.resultTypes.toList.any (P.ifacesRec ·))) = true)
    (h21 : ((c.loopsOut == fn.resultTypes.toList.any (P.loopsFrom ·))) = true)
    (h22 : ((c.plainKeys == P.plainKeys)) = true)
    (h23 : (c.shortTexts.isNone) = true)
    (h24 : (P.stopsHeard) = true)
    (h25 : (P.mayEnter) = true)
    (h26 : ((c.lifted == P.liftsFinal)) = true)
    (h27 : ((P.make == some c.make)) = true)
    (h28 : ((c.kinds == (if c.domain.isEmpty then [] else fn.params.toList.map fun t => match P.underlying t with | some (.int k) => some k | _ => none))) = true)
    (h29 : ((c.pinned == c.pinnedBy)) = true)
    (h30 : ((c.veiled == (fn.params.toList ++ s.plain.varTypes P ++ fn.resultTypes.toList).any (P.veiledRec ·))) = true)
    (h31 : (c.veiledFits P fn.params.toList (fn.params.toList ++ s.plain.varTypes P ++ fn.resultTypes.toList)) = true) : joinedFacts P f fn s c = true := by
  simp only [joinedFacts, Bool.and_eq_true]
  exact ⟨⟨⟨⟨⟨⟨⟨⟨⟨⟨⟨⟨⟨⟨⟨⟨⟨⟨⟨⟨⟨⟨⟨⟨⟨⟨⟨⟨⟨⟨⟨h0, h1⟩, h2⟩, h3⟩, h4⟩, h5⟩, h6⟩, h7⟩, h8⟩, h9⟩, h10⟩, h11⟩, h12⟩, h13⟩, h14⟩, h15⟩, h16⟩, h17⟩, h18⟩, h19⟩, h20⟩, h21⟩, h22⟩, h23⟩, h24⟩, h25⟩, h26⟩, h27⟩, h28⟩, h29⟩, h30⟩, h31⟩
theorem k1 : (laidOutB Tryd.prog) = true := by kernel_rfl
theorem k2 : (mapsRowed Tryd.prog) = true := by kernel_rfl
theorem k6 : ((Tryd.prog.stops == [])) = true := by kernel_rfl
theorem k8 : ((Tryd.prog.stopKnobs == [])) = true := by kernel_rfl
theorem k22 : ((Rows.fnExtendedRow.plainKeys == Tryd.prog.plainKeys)) = true := by kernel_rfl
theorem k24 : (Tryd.prog.stopsHeard) = true := by kernel_rfl
theorem k25 : (Tryd.prog.mayEnter) = true := by kernel_rfl
theorem k26 : ((Rows.fnExtendedRow.lifted == Tryd.prog.liftsFinal)) = true := by kernel_rfl
theorem k27 : ((Tryd.prog.make == some Rows.fnExtendedRow.make)) = true := by kernel_rfl
end Go.Proofs.YtbmcpjkhnhbjdaaDoor.Facts

namespace Go.Proofs.YtbmcpjkhnhbjdaaDoor.OverFnExtended
open Go.ChangeShapes Go.WideShapes Go.ChangeAt Go.RowKit
theorem k0 : (Rows.fnExtendedRow.wf (OpenSpec.ofChange Rows.fnExtendedSpec)) = true := by kernel_rfl
theorem k1 : (laidOutB Tryd.prog) = true := Facts.k1
theorem k2 : (mapsRowed Tryd.prog) = true := Facts.k2
theorem k3 : (Tryd.f7.params.all (Tryd.prog.readableRec ·)) = true := by kernel_rfl
theorem k4 : (namedTie Tryd.prog Rows.fnExtendedRow.named Rows.fnExtendedSpec.vars) = true := by kernel_rfl
theorem k5 : ((Rows.fnExtendedRow.stops == [])) = true := by kernel_rfl
theorem k6 : ((Tryd.prog.stops == [])) = true := Facts.k6
theorem k7 : ((Rows.fnExtendedRow.knobs == [])) = true := by kernel_rfl
theorem k8 : ((Tryd.prog.stopKnobs == [])) = true := Facts.k8
theorem k9 : ((Rows.fnExtendedRow.inPlace == Tryd.prog.inPlace 7)) = true := by kernel_rfl
theorem k10 : ((Rows.fnExtendedRow.unfollowed == Tryd.prog.unfollowed 7)) = true := by kernel_rfl
theorem k11 : ((Rows.fnExtendedRow.recurses == Tryd.prog.recurses 7)) = true := by kernel_rfl
theorem k12 : ((Rows.fnExtendedRow.named == Tryd.prog.varsNamed 7)) = true := by kernel_rfl
theorem k13 : ((Rows.fnExtendedRow.maps == (Tryd.f7.params.toList ++ Rows.fnExtendedSpec.plain.varTypes Tryd.prog).any (Tryd.prog.mapsRec ·))) = true := by kernel_rfl
theorem k14 : ((Rows.fnExtendedRow.ifaces == (Tryd.f7.params.toList ++ Rows.fnExtendedSpec.plain.varTypes Tryd.prog).any (Tryd.prog.ifacesRec ·))) = true := by kernel_rfl
theorem k15 : ((Rows.fnExtendedRow.mapsOut == Tryd.prog.mapsAmong Tryd.f7.resultTypes.toList)) = true := by kernel_rfl
theorem k16 : ((Rows.fnExtendedRow.loops == (Tryd.f7.params.toList ++ Rows.fnExtendedSpec.plain.varTypes Tryd.prog).any (Tryd.prog.loopsFrom ·))) = true := by kernel_rfl
theorem k17 : ((Rows.fnExtendedRow.wideKeys == (Tryd.f7.params.toList ++ Rows.fnExtendedSpec.plain.varTypes Tryd.prog ++ Tryd.f7.resultTypes.toList).any (Tryd.prog.wideKeysFrom ·))) = true := by kernel_rfl
theorem k18 : (Rows.fnExtendedSpec.vars.all (Tryd.prog.varReadable ·)) = true := by kernel_rfl
theorem k19 : (Tryd.f7.resultTypes.all (fun t => Tryd.prog.readableRec t && decide (t < Tryd.prog.types.size))) = true := by kernel_rfl
theorem k20 : ((Rows.fnExtendedRow.ifacesOut == Tryd.f7.resultTypes.toList.any (Tryd.prog.ifacesRec ·))) = true := by kernel_rfl
theorem k21 : ((Rows.fnExtendedRow.loopsOut == Tryd.f7.resultTypes.toList.any (Tryd.prog.loopsFrom ·))) = true := by kernel_rfl
theorem k22 : ((Rows.fnExtendedRow.plainKeys == Tryd.prog.plainKeys)) = true := Facts.k22
theorem k23 : (Rows.fnExtendedRow.shortTexts.isNone) = true := by kernel_rfl
theorem k24 : (Tryd.prog.stopsHeard) = true := Facts.k24
theorem k25 : (Tryd.prog.mayEnter) = true := Facts.k25
theorem k26 : ((Rows.fnExtendedRow.lifted == Tryd.prog.liftsFinal)) = true := Facts.k26
theorem k27 : ((Tryd.prog.make == some Rows.fnExtendedRow.make)) = true := Facts.k27
theorem k28 : ((Rows.fnExtendedRow.kinds == (if Rows.fnExtendedRow.domain.isEmpty then [] else Tryd.f7.params.toList.map fun t => match Tryd.prog.underlying t with | some (.int k) => some k | _ => none))) = true := by kernel_rfl
theorem k29 : ((Rows.fnExtendedRow.pinned == Rows.fnExtendedRow.pinnedBy)) = true := by kernel_rfl
theorem k30 : ((Rows.fnExtendedRow.veiled == (Tryd.f7.params.toList ++ Rows.fnExtendedSpec.plain.varTypes Tryd.prog ++ Tryd.f7.resultTypes.toList).any (Tryd.prog.veiledRec ·))) = true := by kernel_rfl
theorem k31 : (Rows.fnExtendedRow.veiledFits Tryd.prog Tryd.f7.params.toList (Tryd.f7.params.toList ++ Rows.fnExtendedSpec.plain.varTypes Tryd.prog ++ Tryd.f7.resultTypes.toList)) = true := by kernel_rfl
set_option maxRecDepth 100000 in
theorem joined : joinedFacts Tryd.prog 7 Tryd.f7 Rows.fnExtendedSpec Rows.fnExtendedRow = true := Facts.joined_of k0 k1 k2 k3 k4 k5 k6 k7 k8 k9 k10 k11 k12 k13 k14 k15 k16 k17 k18 k19 k20 k21 k22 k23 k24 k25 k26 k27 k28 k29 k30 k31
theorem named : Tryd.prog.funcNamed "goldap/laws.FnExtended" = some 7 := by kernel_rfl
theorem inst : Tryd.f7.isInstance Tryd.prog Rows.fnExtendedRow.origin Rows.fnExtendedRow.targs := of_decide_eq_true (by kernel_rfl)
theorem wrap : Tryd.f7.isWrapper Tryd.prog Rows.fnExtendedRow.wrapper Rows.fnExtendedRow.mainSum := by unfold Func.isWrapper; first | (rw [if_pos (by decide +kernel)]; kernel_rfl) | (rw [if_neg (by decide +kernel)]; exact ⟨rfl, rfl⟩)
theorem over : Rows.FnExtendedSaid :=
  OpenClaim.holds_of_wide 7 Tryd.f7 rfl rfl rfl rfl rfl rfl rfl ⟨rfl, rfl, rfl, rfl, rfl⟩ rfl rfl rfl rfl rfl named Tryd.func7 joined inst wrap
    (fun os started H enc _ => RowFnExtended.lifted os started H enc)
theorem plainArgs : (Tryd.f7.params.toList.all fun t => !(Tryd.prog.wantsStandIn t)) = true := by kernel_rfl
end Go.Proofs.YtbmcpjkhnhbjdaaDoor.OverFnExtended
namespace Go.Proofs.YtbmcpjkhnhbjdaaDoor
theorem fnExtended_card : Rows.FnExtendedCardSaid :=
  Claim7.holds_tied_plain_at .later [] [.sentinel] true (true, "02e7ab89ffa108ae3204427b224f76f33429535afac2a54c8e9935a69e6f7323") true
    OverFnExtended.over (fun _ h => by cases h) (by kernel_rfl) (fun _ h => by cases h) fnExtended_row_tie rfl ⟨rfl, rfl⟩ (by kernel_rfl) rfl
    (fun f fn hf hfn => by
      obtain rfl : f = 7 := Option.some.inj (OverFnExtended.named.symm.trans hf) |>.symm
      obtain rfl : fn = Tryd.f7 := (Option.some.inj (Tryd.func7.symm.trans hfn)).symm
      exact ⟨by kernel_rfl, fun j t ht => by
        have hm : t ∈ Tryd.f7.params.toList := by
          rw [← Array.getElem?_toList] at ht
          exact List.mem_of_getElem? ht
        have := List.all_eq_true.1 OverFnExtended.plainArgs t hm
        show Tryd.prog.wantsStandIn t = false
        simpa using this⟩)
    (by kernel_rfl)
#print axioms fnExtended_card
end Go.Proofs.YtbmcpjkhnhbjdaaDoor
