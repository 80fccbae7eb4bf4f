/- Parts of the proof of one law, in the order in which they build. impl.packet: a packet of the call's own is read as data, in new memory. · impl.packet at packets with packets in them. · A *bytes.Reader is a reader; ber.ReadPacket. · impl.Decode: the packet at the beginning of bytes, or none. · impl.Decode. · What a law's argument reads as, in the print's kinds: from the row's reading ('DataW.trod') to 'Kd.K', for whole numbers, bools, strings, slices, structs, and types that hold themselves. General in the program. -/
import Derived.BigRegion
import Derived.Deep.RegionLaw
import Derived.Deep.DrawnRows
import Derived.Deep.RegionWith
import Derived.Recover
import Derived.Defers
import Derived.ProofKit
import Derived.SizedLaws
import Derived.Test.YtejbpbdlolehnaaDoorAny1
import Derived.Test.YtejbpbdlolehnaaDoorAny2
import Derived.Test.YtejbpbdlolehnaaDoorAny3
import Derived.Test.YtejbpbdlolehnaaDoorAny4
import Derived.Test.YtejbpbdlolehnaaDoorAny5
import Derived.Test.YtejbpbdlolehnaaDoorAny6
import Derived.Test.YtejbpbdlolehnaaDoorAny7
import Derived.Test.YtejbpbdlolehnaaDoorAny8
import Derived.Test.YtejbpbdlolehnaaDoorAny9
namespace Go.Proofs.YtejbpbdlolehnaaDoor.Ber
open Go.RowKit Go.Proofs.YtejbpbdlolehnaaDoorW.PrintWords Go.Proofs.YtejbpbdlolehnaaDoor.Buf Go.Proofs.YtejbpbdlolehnaaDoor.Pk Go.Proofs.YtejbpbdlolehnaaDoor.Num Go.Proofs.YtejbpbdlolehnaaDoor.Ident Go.Proofs.YtejbpbdlolehnaaDoor.Tree Go.Proofs.YtejbpbdlolehnaaDoor.PFnEncode
set_option linter.unusedVariables false
set_option linter.unusedSimpArgs false

/-- what impl.packet leaves -/
def Un (w : World) (x : S25) (e : Ending) (w' : World) : Prop :=
  ∃ c, e = .returned (.agg c.toArray) ∧ k25.M w' w.heap.size (fun _ => True) x c ∧ Below w.heap.size w w'

theorem results_u {P : Program} {fn : Func} {p : Tmp} {ty : TypeId} (h : fn.results = #[.cell p ty]) (tmps : Array Value) (w : World) (g : Nat) (t : TypeId) (cs : Array Value) (fr : Nat × Nat) (d : TypeDesc)
    (hp : tmps.getD p undef = .pointer (some ⟨g, 0, none⟩)) (hg : w.heap[g]? = some (.cells cs t fr))
    (hu : P.underlying ty = some d) (hd : (match d with | .struct _ | .array _ _ => true | _ => false) = true) (hi : (P.info? ty).map (·.size) = some cs.size) :
    (results fn tmps).run P w = .ok (.agg cs) w := by
  have hp' : tmps[p]?.getD undef = .pointer (some ⟨g, 0, none⟩) := by simpa using hp
  simp [results, h, hp', asAddr, run_loadVar_row w g t ty cs fr d hg hu hd hi]
theorem info_ip : (Tryd.prog.info? 25).map (fun i => (i.zero, i.size, i.bytes)) = some (some (.agg #[.int .i64 0, .int .i64 0, .bool false, .slice none 0 0, .slice none 0 0]), 5, 72) := by kernel_rfl
theorem size_ip : (Tryd.prog.info? 25).map (·.size) = some 5 := by kernel_rfl

/-- bytes.Clone of a row that is read: a row of the call's own. -/
theorem clone_any (xs : List Int) (A : Option Addr) (c : Nat) (w : World) (h : B8.C w A xs.length xs) (hl : xs.length ≤ 140737488355328) :
    Calls Tryd.prog 24 #[.slice A xs.length c] w fun e w' => ∃ v, e = .returned v ∧ B8.R 5 w' w.heap.size (fun _ => True) v xs ∧ Below w.heap.size w w' := by
  rcases A with _ | a
  · have h0 : xs = [] := by
      rcases Nat.eq_zero_or_pos xs.length with h1 | h1
      · exact List.eq_nil_of_length_eq_zero h1
      · obtain ⟨a, ha, _⟩ := Kd.at_int h 0 (by omega) (by omega)
        cases ha
    subst h0
    refine (Tryd.bytes_Clone_nil _ c w).mono ?_
    rintro e w' ⟨rfl, rfl⟩
    exact ⟨_, rfl, Kd.R_nil _ _ _ _ _, Below.refl _ _⟩
  · have hc : ∀ i, i < xs.length → w.cell? (a.add i) = some (.int .u8 (xs.getD i 0)) := by
      intro i hi
      obtain ⟨a', hA', hc'⟩ := Kd.at_int h (i : Int) (by omega) (by omega)
      injection hA' with hA'
      subst hA'
      rw [Int.toNat_natCast] at hc'
      rw [hc']
      rfl
    refine (Tryd.bytes_Clone_at a xs.length c xs w rfl hl hc).mono ?_
    rintro e w' ⟨v', rfl, ho, _, hb⟩
    exact ⟨_, rfl, own_int ho (fun _ _ => trivial), hb⟩

/-- the end: out's cells are laid into the result -/
theorem unpk_end {w W0 W3 : World} {x : S25} {v3 v4 u : Value} {z0 z1 z2 z3 z4 : Value} (hb : Below w.heap.size w W0) (hres : W0.heap[w.heap.size]? = some (.cells #[z0, z1, z2, z3, z4] 25 (0, 0)))
    (h3 : B8.R 5 W0 w.heap.size (fun k => k ≠ w.heap.size ∧ k ≠ w.heap.size + 1) v3 x.f3) (h4 : k25.R 25 W0 w.heap.size (fun k => k ≠ w.heap.size ∧ k ≠ w.heap.size + 1) v4 x.f4)
    (hW3 : W3 = ((((((W0.setCell ⟨w.heap.size + 1, 3, none⟩ u).setCell ⟨w.heap.size, 0, none⟩ (.int .i64 x.f0)).setCell ⟨w.heap.size, 1, none⟩ (.int .i64 x.f1)).setCell ⟨w.heap.size, 2, none⟩ (.bool x.f2)).setCell ⟨w.heap.size, 3, none⟩ v3).setCell ⟨w.heap.size, 4, none⟩ v4)) :
    W3.heap[w.heap.size]? = some (.cells #[.int .i64 x.f0, .int .i64 x.f1, .bool x.f2, v3, v4] 25 (0, 0)) ∧ Un w x (.returned (.agg #[.int .i64 x.f0, .int .i64 x.f1, .bool x.f2, v3, v4])) W3 := by
  have hres' : (W0.setCell ⟨w.heap.size + 1, 3, none⟩ u).heap[w.heap.size]? = some (.cells #[z0, z1, z2, z3, z4] 25 (0, 0)) := blk_far hres (p := ⟨w.heap.size + 1, 3, none⟩) (by show w.heap.size ≠ w.heap.size + 1; omega) _
  have h5 := blk_set (blk_set (blk_set (blk_set (blk_set hres' 0 (.int .i64 x.f0)) 1 (.int .i64 x.f1)) 2 (.bool x.f2)) 3 v3) 4 v4
  rw [← hW3] at h5
  refine ⟨h5, _, rfl, k25_mkM W3 w.heap.size _ x (v3 := v3) ?_ (v4 := v4) ?_, ?_⟩
  · rw [hW3]
    exact Kd.R_mono (Kd.R_far (Kd.R_far (Kd.R_far (Kd.R_far (Kd.R_far (Kd.R_far h3 (p := ⟨w.heap.size + 1, 3, none⟩) (fun k hk => hk.2) _) (p := ⟨w.heap.size, 0, none⟩) (fun k hk => hk.1) _) (p := ⟨w.heap.size, 1, none⟩) (fun k hk => hk.1) _) (p := ⟨w.heap.size, 2, none⟩) (fun k hk => hk.1) _) (p := ⟨w.heap.size, 3, none⟩) (fun k hk => hk.1) _) (p := ⟨w.heap.size, 4, none⟩) (fun k hk => hk.1) _) (fun _ _ => trivial)
  · rw [hW3]
    exact Kd.R_mono (Kd.R_far (Kd.R_far (Kd.R_far (Kd.R_far (Kd.R_far (Kd.R_far h4 (p := ⟨w.heap.size + 1, 3, none⟩) (fun k hk => hk.2) _) (p := ⟨w.heap.size, 0, none⟩) (fun k hk => hk.1) _) (p := ⟨w.heap.size, 1, none⟩) (fun k hk => hk.1) _) (p := ⟨w.heap.size, 2, none⟩) (fun k hk => hk.1) _) (p := ⟨w.heap.size, 3, none⟩) (fun k hk => hk.1) _) (p := ⟨w.heap.size, 4, none⟩) (fun k hk => hk.1) _) (fun _ _ => trivial)
  · rw [hW3]
    have hn : ∀ i, w.heap.size ≤ (⟨w.heap.size, i, none⟩ : Addr).block := fun i => Nat.le_refl _
    exact (((((hb.setCell (p := ⟨w.heap.size + 1, 3, none⟩) (Nat.le_succ _) _).setCell (p := ⟨w.heap.size, 0, none⟩) (hn 0) _).setCell (p := ⟨w.heap.size, 1, none⟩) (hn 1) _).setCell (p := ⟨w.heap.size, 2, none⟩) (hn 2) _).setCell (p := ⟨w.heap.size, 3, none⟩) (hn 3) _).setCell (p := ⟨w.heap.size, 4, none⟩) (hn 4) _

set_option maxHeartbeats 3200000 in
set_option maxRecDepth 100000 in
theorem unpk_prim (cls tag : Int) (val : Value) (bv data : List Int) (kids : List Pk) (desc : ByteArray) (h0 : 0 ≤ cls) (h1 : cls ≤ 255) (h2 : 0 ≤ tag) (h3 : tag < 268435456) (h4 : data.length < 1099511627776) (b base : Nat) (ok : Nat → Prop) (w : World) (hI : IsPk w base ok b ⟨cls, 0, tag, val, bv, data, kids, desc⟩) :
    Calls Tryd.prog 26 #[.pointer (some ⟨b, 0, none⟩)] w (Un w ⟨cls / 64, tag, false, data, []⟩) := by
    obtain ⟨db, v, bvv, cv, P⟩ := parts_of hI.bound
    obtain ⟨Z, hZ⟩ : ∃ Z : Obj, Z = (Obj.cells #[.int .i64 0, .int .i64 0, .bool false, .slice none 0 0, .slice none 0 0] 25) := ⟨_, rfl⟩
    have hb0 : Below w.heap.size w (w.alloc Z) := below_alloc (Below.refl _ _) _
    have P0 := P.below hb0
    have c0 : (w.alloc Z).cell? ⟨b, 0, none⟩ = some (.int .u8 cls) := P0.cell 0
    have c1 : (w.alloc Z).cell? ⟨b, 1, none⟩ = some (.int .u8 0) := P0.cell 1
    have c2 : (w.alloc Z).cell? ⟨b, 2, none⟩ = some (.int .u64 tag) := P0.cell 2
    have hb0' : Below w.heap.size w ((w.alloc Z).alloc Z) := below_alloc hb0 _
    have P0' := P.below hb0'
    have d0 : ((w.alloc Z).alloc Z).cell? ⟨b, 0, none⟩ = some (.int .u8 cls) := P0'.cell 0
    have d1 : ((w.alloc Z).alloc Z).cell? ⟨b, 1, none⟩ = some (.int .u8 0) := P0'.cell 1
    have d2 : ((w.alloc Z).alloc Z).cell? ⟨b, 2, none⟩ = some (.int .u64 tag) := P0'.cell 2
    have e1 : IntKind.i64.wrap cls = cls := by rw [IntKind.wrap_i64]; omega
    have e2 : IntKind.i64.wrap tag = tag := by rw [IntKind.wrap_i64]; omega
    have e3 : IntKind.i64.wrap (cls / 64) = cls / 64 := by rw [IntKind.wrap_i64]; omega
    have e4 : wrap64 cls = cls := by unfold wrap64; omega
    have e5 : wrap64 tag = tag := by unfold wrap64; omega
    have hW1 : ∀ W, W = ((w.alloc Z).alloc (.cells #[.int .i64 (cls / 64), .int .i64 tag, .bool false, .slice none 0 0, .slice none 0 0] 25)).drew → Below w.heap.size w W ∧ W.heap[w.heap.size]? = some (.cells #[.int .i64 0, .int .i64 0, .bool false, .slice none 0 0, .slice none 0 0] 25 (0, 0)) ∧
        W.heap[w.heap.size + 1]? = some (.cells #[.int .i64 (cls / 64), .int .i64 tag, .bool false, .slice none 0 0, .slice none 0 0] 25 (0, 0)) := by
      rintro W rfl
      refine ⟨(below_alloc hb0 _).drew, ?_, ?_⟩
      · show ((w.alloc Z).alloc _).heap[w.heap.size]? = _
        have := blk_alloc (blk_new w (.cells #[.int .i64 0, .int .i64 0, .bool false, .slice none 0 0, .slice none 0 0] 25)) (.cells #[.int .i64 (cls / 64), .int .i64 tag, .bool false, .slice none 0 0, .slice none 0 0] 25)
        rw [hZ]
        exact this
      · have := blk_new (w.alloc Z) (.cells #[.int .i64 (cls / 64), .int .i64 tag, .bool false, .slice none 0 0, .slice none 0 0] 25)
        have e : (w.alloc Z).heap.size = w.heap.size + 1 := by simp
        rw [e] at this
        exact this
    subst hZ
    have HP := Lib.hid P
    have HW1 := Lib.hid hW1
    clear P P0 P0' hI hb0 hb0' hW1
    go_enter Tryd.func26, Tryd.ntmps26
    go_wp2
    go_region
    clear c0 c1 c2 d0 d1 d2
    obtain ⟨W1, hW⟩ : ∃ W1, W1 = ((w.alloc (.cells #[.int .i64 0, .int .i64 0, .bool false, .slice none 0 0, .slice none 0 0] 25)).alloc (.cells #[.int .i64 (cls / 64), .int .i64 tag, .bool false, .slice none 0 0, .slice none 0 0] 25)).drew := ⟨_, rfl⟩
    obtain ⟨hB1, hr1, ho1⟩ := HW1.out W1 hW
    rw [← hW]
    clear hW
    have P1 := HP.out.below hB1
    have k2 : W1.cell? ⟨w.heap.size + 1, 2, none⟩ = some (.bool false) := blk_cell ho1 2
    have k5 : W1.cell? ⟨b, 5, none⟩ = some (.pointer (some ⟨db, 0, none⟩)) := P1.cell 5
    have HBY := Lib.hid (Tryd.Buffer_Bytes 0 db (nums .u8 data) W1 P1.buf.shelf)
    have HB1 := Lib.hid hB1
    have HR1 := Lib.hid hr1
    have HO1 := Lib.hid ho1
    clear P1 hB1 hr1 ho1 HW1
    go_wp2_with (first
      | (go_at_call 33
         with_reducible refine HBY.out.mono ?_
         rintro e W2 ⟨v2, rfl, hv2, n2, hW2⟩
         rw [nums_length] at hv2
         obtain ⟨A2, d2, rfl, hl2, hc2, _⟩ := own_row_parts hv2
         have hB2 : Below W1.heap.size W1 W2 := hW2 ▸ pw_below_drewN (Below.refl _ W1) n2
         have HC2 := Lib.hid (clone_any data A2 d2 W2 hc2 (by omega))
         have HR2 := Lib.hid (blk_below HR1.out hB2)
         have HO2 := Lib.hid (blk_below HO1.out hB2)
         have HB2 := Lib.hid (HB1.out.trans (hB2.mono HB1.out.size))
         clear hv2 hW2 hl2 hc2 hB2 HBY HR1 HO1 k2 k5 HB1)
      | (go_at_call 24
         with_reducible refine HC2.out.mono ?_
         rintro e W3 ⟨v3, rfl, hv3, hB3⟩
         obtain ⟨A3, d3, hv3e⟩ := Kd.R_slice hv3
         subst hv3e
         have hn2 : w.heap.size + 1 < W2.heap.size := blk_lt HO2.out
         have HR3 := Lib.hid (blk_below HR2.out hB3)
         have HO3 := Lib.hid (blk_below HO2.out hB3)
         have HB3 := Lib.hid (HB2.out.trans (hB3.mono HB2.out.size))
         have k0 : W3.cell? ⟨w.heap.size + 1, 0, none⟩ = some (.int .i64 (cls / 64)) := blk_cell HO3.out 0
         have k1 : W3.cell? ⟨w.heap.size + 1, 1, none⟩ = some (.int .i64 tag) := blk_cell HO3.out 1
         have k2 : W3.cell? ⟨w.heap.size + 1, 2, none⟩ = some (.bool false) := blk_cell HO3.out 2
         have k3 : W3.cell? ⟨w.heap.size + 1, 3, none⟩ = some (.slice none 0 0) := blk_cell HO3.out 3
         have k4 : W3.cell? ⟨w.heap.size + 1, 4, none⟩ = some (.slice none 0 0) := blk_cell HO3.out 4
         have kf3 := blk_frozen HO3.out 3
         have r0 : W3.cell? ⟨w.heap.size, 0, none⟩ = some (.int .i64 0) := blk_cell HR3.out 0
         have r1 : W3.cell? ⟨w.heap.size, 1, none⟩ = some (.int .i64 0) := blk_cell HR3.out 1
         have r2 : W3.cell? ⟨w.heap.size, 2, none⟩ = some (.bool false) := blk_cell HR3.out 2
         have r3 : W3.cell? ⟨w.heap.size, 3, none⟩ = some (.slice none 0 0) := blk_cell HR3.out 3
         have r4 : W3.cell? ⟨w.heap.size, 4, none⟩ = some (.slice none 0 0) := blk_cell HR3.out 4
         have rf0 := blk_frozen HR3.out 0
         have rf1 := blk_frozen HR3.out 1
         have rf2 := blk_frozen HR3.out 2
         have rf3 := blk_frozen HR3.out 3
         have rf4 := blk_frozen HR3.out 4
         have HV3 : Hid (B8.R 5 W3 w.heap.size (fun k => k ≠ w.heap.size ∧ k ≠ w.heap.size + 1) (.slice A3 data.length d3) data) := Lib.hid (Kd.R_lower (Kd.R_mono (Kd.R_bound hv3) (fun k hk => by have := hk.2.1; omega)) (by omega))
         clear hv3 hB3 HR2 HO2 HC2))
    try simp only [Exit.inBlock, Exit.then]
    obtain ⟨h5, hend⟩ := unpk_end (x := ⟨cls / 64, tag, false, data, []⟩) (v3 := .slice A3 data.length d3) (v4 := .slice none 0 0) HB3.out HR3.out HV3.out (Kd.R_nil _ _ _ _ _) rfl
    exact bodyPost_ret (results_u rfl _ _ _ _ _ _ _ rfl h5 Tryd.underlying25 rfl size_ip) rfl hend
end Go.Proofs.YtejbpbdlolehnaaDoor.Ber

namespace Go.Proofs.YtejbpbdlolehnaaDoor.Ber
open Go.RowKit Go.Proofs.YtejbpbdlolehnaaDoorW.PrintWords Go.Proofs.YtejbpbdlolehnaaDoor.Buf Go.Proofs.YtejbpbdlolehnaaDoor.Pk Go.Proofs.YtejbpbdlolehnaaDoor.Num Go.Proofs.YtejbpbdlolehnaaDoor.Ident Go.Proofs.YtejbpbdlolehnaaDoor.Tree Go.Proofs.YtejbpbdlolehnaaDoor.PFnEncode
set_option linter.unusedVariables false
set_option linter.unusedSimpArgs false

/-- what stands at the loop's head -/
structure UInv (w W : World) (a b : Int) (v : Value) (acc : List S25) : Prop where
  bel : Below w.heap.size w W
  res : W.heap[w.heap.size]? = some (.cells #[.int .i64 0, .int .i64 0, .bool false, .slice none 0 0, .slice none 0 0] 25 (0, 0))
  out : W.heap[w.heap.size + 1]? = some (.cells #[.int .i64 a, .int .i64 b, .bool true, .slice none 0 0, v] 25 (0, 0))
  row : k25.R 25 W w.heap.size (fun k => k ≠ w.heap.size ∧ k ≠ w.heap.size + 1) v acc

section
variable {w W W' : World} {a b : Int} {v : Value} {acc : List S25}
theorem UInv.step (I : UInv w W a b v acc) (hb : Below W.heap.size W W') : UInv w W' a b v acc :=
  ⟨I.bel.trans (hb.mono I.bel.size), blk_below I.res hb, blk_below I.out hb, Kd.R_below I.row hb⟩
theorem UInv.read (I : UInv w W a b v acc) {x : S25} {e : Ending} (h : Un W x e W') :
    ∃ c, e = .returned (.agg c.toArray) ∧ UInv w W' a b v acc ∧ k25.M W' w.heap.size (fun k => W.heap.size ≤ k) x c := by
  obtain ⟨c, he, hM, hb⟩ := h
  exact ⟨c, he, I.step hb, k25.M_lower I.bel.size (k25.M_mono (fun k hk => hk.2.1) (k25.M_bound hM))⟩
theorem UInv.vlt (I : UInv w W a b v acc) : ∀ k, v.ownBlock = some k → k < W.heap.size := fun k hk => own_lt I.row.2.choose_spec.1 k hk
theorem UInv.okp (I : UInv w W a b v acc) : ∀ k, W.heap.size ≤ k → (k ≠ w.heap.size ∧ k ≠ w.heap.size + 1) ∧ some k ≠ v.ownBlock := fun k hk => by
  have hl1 := blk_lt I.res
  have hl2 := blk_lt I.out
  refine ⟨⟨by omega, by omega⟩, fun e => ?_⟩
  have := I.vlt k e.symm
  omega
theorem UInv.fresh (I : UInv w W a b v acc) : ∀ k, W.heap.size ≤ k → k ≠ w.heap.size ∧ k ≠ w.heap.size + 1 := fun k hk => by
  have hl1 := blk_lt I.res
  have hl2 := blk_lt I.out
  exact ⟨by omega, by omega⟩
theorem UInv.ne (I : UInv w W a b v acc) : some (w.heap.size + 1) ≠ v.ownBlock := fun e => (I.row.1 _ e.symm).2 rfl
theorem UInv.app (I : UInv w W a b v acc) {x : S25} {v1 : Value} (hg : W.grownBy W' v.ownBlock) (hat : v1.ownBlock = v.ownBlock ∨ ∃ b, v1.ownBlock = some b ∧ W.heap.size ≤ b) (hR : k25.R 25 W' w.heap.size (fun k => k ≠ w.heap.size ∧ k ≠ w.heap.size + 1) v1 (acc ++ [x])) :
    UInv w (W'.setCell ⟨w.heap.size + 1, 4, none⟩ v1) a b v1 (acc ++ [x]) := by
  have hb : ∀ k, v.ownBlock = some k → w.heap.size ≤ k ∧ k ≠ w.heap.size ∧ k ≠ w.heap.size + 1 := fun k hk => ⟨own_base I.row.2.choose_spec.1 k hk, I.row.1 k hk⟩
  have hne : ∀ i, i < w.heap.size ∨ i = w.heap.size ∨ i = w.heap.size + 1 → some i ≠ v.ownBlock := fun i hi e => by
    have := hb i e.symm
    omega
  refine ⟨?_, blk_far (blk_grown I.res hg (hne _ (.inr (.inl rfl)))) (by show w.heap.size ≠ w.heap.size + 1; omega) _, ?_, Kd.R_far hR (fun k hk => hk.2) _⟩
  · refine Below.setCell ?_ (p := ⟨w.heap.size + 1, 4, none⟩) (Nat.le_succ _) _
    exact ⟨hg.os.trans I.bel.os, hg.tape.trans I.bel.tape, hg.output.trans I.bel.output, Nat.le_trans I.bel.size hg.size, fun i hi => (hg.block i (by have := I.bel.size; omega) (hne i (.inl hi))).trans (I.bel.block i hi)⟩
  · exact blk_set (blk_grown I.out hg (hne _ (.inr (.inr rfl)))) 4 v1
end

/-- the end of the loop -/
theorem unpk_end2 {w W0 W3 : World} {a b : Int} {v4 : Value} {acc : List S25} (I : UInv w W0 a b v4 acc)
    (hW3 : W3 = (((((W0.setCell ⟨w.heap.size, 0, none⟩ (.int .i64 a)).setCell ⟨w.heap.size, 1, none⟩ (.int .i64 b)).setCell ⟨w.heap.size, 2, none⟩ (.bool true)).setCell ⟨w.heap.size, 3, none⟩ (.slice none 0 0)).setCell ⟨w.heap.size, 4, none⟩ v4)) :
    W3.heap[w.heap.size]? = some (.cells #[.int .i64 a, .int .i64 b, .bool true, .slice none 0 0, v4] 25 (0, 0)) ∧ Un w ⟨a, b, true, [], acc⟩ (.returned (.agg #[.int .i64 a, .int .i64 b, .bool true, .slice none 0 0, v4])) W3 := by
  have h5 := blk_set (blk_set (blk_set (blk_set (blk_set I.res 0 (.int .i64 a)) 1 (.int .i64 b)) 2 (.bool true)) 3 (.slice none 0 0)) 4 v4
  rw [← hW3] at h5
  refine ⟨h5, _, rfl, k25_mkM W3 w.heap.size _ ⟨a, b, true, [], acc⟩ (v3 := .slice none 0 0) (Kd.R_nil _ _ _ _ _) (v4 := v4) ?_, ?_⟩
  · rw [hW3]
    exact Kd.R_mono (Kd.R_far (Kd.R_far (Kd.R_far (Kd.R_far (Kd.R_far I.row (p := ⟨w.heap.size, 0, none⟩) (fun k hk => hk.1) _) (p := ⟨w.heap.size, 1, none⟩) (fun k hk => hk.1) _) (p := ⟨w.heap.size, 2, none⟩) (fun k hk => hk.1) _) (p := ⟨w.heap.size, 3, none⟩) (fun k hk => hk.1) _) (p := ⟨w.heap.size, 4, none⟩) (fun k hk => hk.1) _) (fun _ _ => trivial)
  · rw [hW3]
    have hn : ∀ i, w.heap.size ≤ (⟨w.heap.size, i, none⟩ : Addr).block := fun i => Nat.le_refl _
    exact ((((I.bel.setCell (p := ⟨w.heap.size, 0, none⟩) (hn 0) _).setCell (p := ⟨w.heap.size, 1, none⟩) (hn 1) _).setCell (p := ⟨w.heap.size, 2, none⟩) (hn 2) _).setCell (p := ⟨w.heap.size, 3, none⟩) (hn 3) _).setCell (p := ⟨w.heap.size, 4, none⟩) (hn 4) _

theorem trL_step {l : List Pk} {k : Nat} (hk : k < l.length) : trL (l.take (k + 1)) = trL (l.take k) ++ [trOf l[k]] := by
  rw [List.take_succ_eq_append_getElem hk, trL_append]
  rfl

set_option maxHeartbeats 6400000 in
set_option maxRecDepth 100000 in
theorem unpk_any : ∀ (n : Nat) (x : Pk), dp x ≤ n → okP x → ∀ (b base : Nat) (ok : Nat → Prop) (w : World), IsPk w base ok b x → Calls Tryd.prog 26 #[.pointer (some ⟨b, 0, none⟩)] w (Un w (trOf x)) := by
  intro n
  induction n with
  | zero =>
    rintro ⟨cls, typ, tag, val, bv, data, kids, desc⟩ hd
    rw [dp] at hd
    omega
  | succ n ih =>
    rintro ⟨cls, typ, tag, val, bv, data, kids, desc⟩ hd hok b base ok w hI
    rw [dp] at hd
    rw [okP] at hok
    obtain ⟨⟨h0, h1⟩, ht, ⟨h2, h3⟩, h4, h5, h6⟩ := hok
    rcases ht with rfl | rfl
    · exact unpk_prim cls tag val bv data kids desc h0 h1 h2 h3 h4 b base ok w hI
    rw [trOf, if_pos rfl, if_pos rfl, decide_eq_true rfl]
    obtain ⟨db, v, bvv, cv, P⟩ := parts_of hI.bound
    obtain ⟨Z, hZ⟩ : ∃ Z : Obj, Z = (Obj.cells #[.int .i64 0, .int .i64 0, .bool false, .slice none 0 0, .slice none 0 0] 25) := ⟨_, rfl⟩
    have hb0 : Below w.heap.size w (w.alloc Z) := below_alloc (Below.refl _ _) _
    have P0 := P.below hb0
    have c0 : (w.alloc Z).cell? ⟨b, 0, none⟩ = some (.int .u8 cls) := P0.cell 0
    have c1 : (w.alloc Z).cell? ⟨b, 1, none⟩ = some (.int .u8 32) := P0.cell 1
    have c2 : (w.alloc Z).cell? ⟨b, 2, none⟩ = some (.int .u64 tag) := P0.cell 2
    have hb0' : Below w.heap.size w ((w.alloc Z).alloc Z) := below_alloc hb0 _
    have P0' := P.below hb0'
    have d0 : ((w.alloc Z).alloc Z).cell? ⟨b, 0, none⟩ = some (.int .u8 cls) := P0'.cell 0
    have d1 : ((w.alloc Z).alloc Z).cell? ⟨b, 1, none⟩ = some (.int .u8 32) := P0'.cell 1
    have d2 : ((w.alloc Z).alloc Z).cell? ⟨b, 2, none⟩ = some (.int .u64 tag) := P0'.cell 2
    have e1 : IntKind.i64.wrap cls = cls := by rw [IntKind.wrap_i64]; omega
    have e2 : IntKind.i64.wrap tag = tag := by rw [IntKind.wrap_i64]; omega
    have e3 : IntKind.i64.wrap (cls / 64) = cls / 64 := by rw [IntKind.wrap_i64]; omega
    have e4 : wrap64 cls = cls := by unfold wrap64; omega
    have e5 : wrap64 tag = tag := by unfold wrap64; omega
    have hW1 : ∀ W, W = ((w.alloc Z).alloc (.cells #[.int .i64 (cls / 64), .int .i64 tag, .bool true, .slice none 0 0, .slice none 0 0] 25)).drew → UInv w W (cls / 64) tag (.slice none 0 0) [] := by
      rintro W rfl
      refine ⟨(below_alloc hb0 _).drew, ?_, ?_, Kd.R_nil _ _ _ _ _⟩
      · show ((w.alloc Z).alloc _).heap[w.heap.size]? = _
        have := blk_alloc (blk_new w (.cells #[.int .i64 0, .int .i64 0, .bool false, .slice none 0 0, .slice none 0 0] 25)) (.cells #[.int .i64 (cls / 64), .int .i64 tag, .bool true, .slice none 0 0, .slice none 0 0] 25)
        rw [hZ]
        exact this
      · have := blk_new (w.alloc Z) (.cells #[.int .i64 (cls / 64), .int .i64 tag, .bool true, .slice none 0 0, .slice none 0 0] 25)
        have e : (w.alloc Z).heap.size = w.heap.size + 1 := by simp
        rw [e] at this
        exact this
    subst hZ
    obtain ⟨Ac, cc, hcv⟩ := Kd.R_slice P.rk
    subst hcv
    have HP := Lib.hid P
    have HW1 := Lib.hid hW1
    have H6 := Lib.hid h6
    have HIH := Lib.hid ih
    have HD : Hid (dpL kids ≤ n) := Lib.hid (by omega)
    clear P P0 P0' hI hb0 hb0' hW1 h6 ih hd
    go_enter Tryd.func26, Tryd.ntmps26
    go_wp2
    go_region
    clear c0 c1 c2 d0 d1 d2
    obtain ⟨W1, hW⟩ : ∃ W1, W1 = ((w.alloc (.cells #[.int .i64 0, .int .i64 0, .bool false, .slice none 0 0, .slice none 0 0] 25)).alloc (.cells #[.int .i64 (cls / 64), .int .i64 tag, .bool true, .slice none 0 0, .slice none 0 0] 25)).drew := ⟨_, rfl⟩
    have HI := Lib.hid (HW1.out W1 hW)
    rw [← hW]
    clear hW HW1
    have k2 : W1.cell? ⟨w.heap.size + 1, 2, none⟩ = some (.bool true) := blk_cell HI.out.out 2
    have k6 : W1.cell? ⟨b, 6, none⟩ = some (.slice Ac kids.length cc) := (HP.out.below HI.out.bel).cell 6
    clear e1 e2 e3 e4 e5
    go_wp2
    clear k2 k6
    go_loopw [42] (fun i wr => ∃ k : Nat, k ≤ kids.length ∧ i = .int .i64 k ∧ Hid (∃ v, UInv w wr (cls / 64) tag v (trL (kids.take k)))) (fun i _ => kids.length - (intOf i).toNat)
    case atStart => exact ⟨0, Nat.zero_le _, rfl, Lib.hid ⟨_, HI.out⟩⟩
    case round =>
      obtain ⟨k, hk, rfl, HV0⟩ := hrel
      obtain ⟨v, HV1⟩ := HV0.out
      have HV := Lib.hid HV1
      clear HV0 HV1
      clear HI
      by_cases hlt : k < kids.length
      · have PW := HP.out.below HV.out.bel
        obtain ⟨ad, cap, q, hsl, hcell, hkid⟩ := kid_at PW.rk hlt
        injection hsl with ha _ hcap
        subst ha
        subst hcap
        have HKID := Lib.hid (HIH.out kids[k] (Nat.le_trans (dpL_mem (List.getElem_mem hlt)) HD.out) (okL_mem H6.out (List.getElem_mem hlt)) q _ _ wr.drew (hkid.below ((Below.refl _ wr).drew)))
        have HST := Lib.hid (trL_step hlt)
        obtain ⟨kid, hkd⟩ : ∃ kid, kid = trOf kids[k] := ⟨_, rfl⟩
        rw [← hkd] at HKID HST
        have HLE : Hid ((trL (kids.take k)).length ≤ 1099511627776) := Lib.hid (by rw [trL_length, List.length_take]; omega)
        obtain ⟨acc, hacc⟩ : ∃ acc, acc = trL (kids.take k) := ⟨_, rfl⟩
        rw [← hacc] at HST HV HLE
        clear hkd hacc hkid PW
        go_wp2_with fail
        have HI2 := Lib.hid (HV.out.step (W' := wr.drew) ((Below.refl _ wr).drew))
        have s0 : wr.cell? ⟨w.heap.size + 1, 4, none⟩ = some v := blk_cell HV.out.out 4
        clear hcell
        go_region_law (first
          | ((refine Kd.R_append_step k25 (w0 := W4) (W := W4) w.heap.size (by rfl) (.tmp 47) (.tmp 50) 23 25 (.agg #[.int .i64 0, .int .i64 0, .bool false, .slice none 0 0, .slice none 0 0]) 72 (by rfl) Tryd.underlying23 info_ip rfl (show 0 < 5 by decide) (by decide) v acc kid _ (fun k => k ≠ w.heap.size ∧ k ≠ w.heap.size + 1) _ (by rfl) (by rfl) HM4.out HI2.out.okp HI4.out.fresh HI4.out.row (Below.refl _ _) HI4.out.bel.size (by have := HLE.out; omega) ?_
              intro v1 w1 hR1 hb1 hg1 hat1
              have hne := HI4.out.ne
              have x0 : w1.cell? ⟨w.heap.size + 1, 4, none⟩ = some v := blk_cell (blk_grown HI4.out.out hg1 hne) 4
              have xf : w1.frozen? ⟨w.heap.size + 1, 4, none⟩ = false := blk_frozen (blk_grown HI4.out.out hg1 hne) 4
              obtain ⟨Aq, cq, hvq, _, _⟩ := Kd.R_reads hR1
              subst hvq
              have h6 := HI4.out.app hg1 hat1 hR1
              simp only [List.length_append, List.length_singleton] at h6
              have HI6 := Lib.hid h6
              clear h6 hR1 hb1 hg1 hat1 hne))
          | (go_wp2_with (go_at_call 26
                          with_reducible refine HKID.out.mono ?_
                          rintro e W4 hR4
                          obtain ⟨c4, rfl, hI4, hM4⟩ := HI2.out.read hR4
                          obtain ⟨v5, v6, rfl, r5, r6⟩ := k25_openM hM4
                          have t0 : W4.cell? ⟨w.heap.size + 1, 4, none⟩ = some v := blk_cell hI4.out 4
                          have u0 : ∀ o, (W4.alloc o).cell? ⟨w.heap.size + 1, 4, none⟩ = some v := fun o => blk_cell (blk_alloc hI4.out o) 4
                          have HI4 := Lib.hid hI4
                          have HM4 := Lib.hid hM4
                          clear hI4 hM4 hR4 r5 r6)))
        all_goals (
          go_wp2
          go_roundw
          case rel =>
            refine ⟨k + 1, by omega, by go_num, Lib.hid ⟨_, by rw [HST.out]; exact HI6.out⟩⟩
          case measure => simp [intOf]; omega)
      · obtain rfl : k = kids.length := by omega
        obtain ⟨Av, cv, rfl, hav, hcv⟩ := Kd.R_reads HV.out.row
        clear hav hcv
        have hfin : trL (kids.take kids.length) = trL kids := by rw [List.take_length]
        rw [hfin] at HV
        have hlen : (trL (kids.take kids.length)).length = (trL kids).length := by rw [hfin]
        have o0 : wr.cell? ⟨w.heap.size + 1, 0, none⟩ = some (.int .i64 (cls / 64)) := blk_cell HV.out.out 0
        have o1 : wr.cell? ⟨w.heap.size + 1, 1, none⟩ = some (.int .i64 tag) := blk_cell HV.out.out 1
        have o2 : wr.cell? ⟨w.heap.size + 1, 2, none⟩ = some (.bool true) := blk_cell HV.out.out 2
        have o3 : wr.cell? ⟨w.heap.size + 1, 3, none⟩ = some (.slice none 0 0) := blk_cell HV.out.out 3
        have o4 : wr.cell? ⟨w.heap.size + 1, 4, none⟩ = some (.slice Av (trL kids).length cv) := by
          exact blk_cell HV.out.out 4
        have kf0 : wr.frozen? ⟨w.heap.size, 0, none⟩ = false := blk_frozen HV.out.res 0
        have kf1 : wr.frozen? ⟨w.heap.size, 1, none⟩ = false := blk_frozen HV.out.res 1
        have kf2 : wr.frozen? ⟨w.heap.size, 2, none⟩ = false := blk_frozen HV.out.res 2
        have kf3 : wr.frozen? ⟨w.heap.size, 3, none⟩ = false := blk_frozen HV.out.res 3
        have kf4 : wr.frozen? ⟨w.heap.size, 4, none⟩ = false := blk_frozen HV.out.res 4
        have k0 : wr.cell? ⟨w.heap.size, 0, none⟩ = some (.int .i64 0) := blk_cell HV.out.res 0
        have k1 : wr.cell? ⟨w.heap.size, 1, none⟩ = some (.int .i64 0) := blk_cell HV.out.res 1
        have k2 : wr.cell? ⟨w.heap.size, 2, none⟩ = some (.bool false) := blk_cell HV.out.res 2
        have k3 : wr.cell? ⟨w.heap.size, 3, none⟩ = some (.slice none 0 0) := blk_cell HV.out.res 3
        have k4 : wr.cell? ⟨w.heap.size, 4, none⟩ = some (.slice none 0 0) := blk_cell HV.out.res 4
        go_wp2
        try simp only [Exit.inBlock, Exit.then]
        obtain ⟨h5, hend⟩ := unpk_end2 HV.out rfl
        exact bodyPost_ret (results_u rfl _ _ _ _ _ _ _ rfl h5 Tryd.underlying25 rfl size_ip) rfl hend
end Go.Proofs.YtejbpbdlolehnaaDoor.Ber
namespace Go.Proofs.YtejbpbdlolehnaaDoor.Ber
open Go.RowKit Go.Proofs.YtejbpbdlolehnaaDoorW.PrintWords Go.Proofs.YtejbpbdlolehnaaDoorW.PrintLast Go.Proofs.YtejbpbdlolehnaaDoor.Buf Go.Proofs.YtejbpbdlolehnaaDoor.Pk Go.Proofs.YtejbpbdlolehnaaDoor.Tree Go.Proofs.YtejbpbdlolehnaaDoor.Num Go.Proofs.YtejbpbdlolehnaaDoor.Ident Go.Proofs.YtejbpbdlolehnaaDoor.PFnEncode
set_option linter.unusedVariables false
set_option linter.unusedSimpArgs false

/-- what io.EOF and io.ErrUnexpectedEOF point to -/
structure EofAt (W : World) (va ua : Addr) : Prop where
  e1 : W.cell? ⟨0, 0, none⟩ = some (.iface 104 (.pointer (some va)))
  e2 : W.cell? ⟨1, 0, none⟩ = some (.iface 104 (.pointer (some ua)))
  b1 : ∃ ca ta, W.heap[va.block]? = some (.cells ca ta (0, 0))
  b2 : ∃ ca ta, W.heap[ua.block]? = some (.cells ca ta (0, 0))
/-- they lie below -/
def EofLt (va ua : Addr) (n : Nat) : Prop := 0 < n ∧ 1 < n ∧ va.block < n ∧ ua.block < n
theorem EofAt.lt {W : World} {va ua : Addr} (h : EofAt W va ua) : EofLt va ua W.heap.size := by
  obtain ⟨h1, h2, ⟨ca, ta, h3⟩, ⟨cb, tb, h4⟩⟩ := h
  exact ⟨World.block_lt_of_cell? W _ h1, World.block_lt_of_cell? W _ h2, blk_lt h3, blk_lt h4⟩
theorem EofAt.keep {W W' : World} {va ua : Addr} (h : EofAt W va ua) {S : Nat → Prop} {n : Nat} (hlt : EofLt va ua n) (hb : ∀ b, b < n → W'.heap[b]? = W.heap[b]?) : EofAt W' va ua := by
  obtain ⟨h1, h2, ⟨ca, ta, h3⟩, ⟨cb, tb, h4⟩⟩ := h
  exact ⟨(World.cell?_of_block (a := ⟨0, 0, none⟩) (hb _ hlt.1)).trans h1, (World.cell?_of_block (a := ⟨1, 0, none⟩) (hb _ hlt.2.1)).trans h2, ⟨ca, ta, (hb _ hlt.2.2.1).trans h3⟩, ⟨cb, tb, (hb _ hlt.2.2.2).trans h4⟩⟩
theorem AtRd.keep {W W' : World} {g : Nat} {A : Option Addr} {c i : Nat} {data : List Int} (h : AtRd W g A c i data) (hg : W'.heap[g]? = W.heap[g]?) (hA : ∀ a, A = some a → W'.heap[a.block]? = W.heap[a.block]?) : AtRd W' g A c i data := by
  obtain ⟨⟨pr, hb⟩, hrd, hle, hcap, hbig, hfar⟩ := h
  refine ⟨⟨pr, hg.trans hb⟩, ?_, hle, hcap, hbig, hfar⟩
  cases A with
  | none =>
    obtain ⟨h1, h2, h3⟩ := hrd
    exact ⟨h1, h2, fun hp => by obtain ⟨ad, hA', _⟩ := h3 hp; cases hA'⟩
  | some a => exact C_block hrd (hA a rfl)
/-- the reader at the bytes l -/
def AtB (g : Nat) (A : Option Addr) (c : Nat) (data : List Int) (va ua : Addr) (W : World) (l : List Int) : Prop := ∃ i, AtRd W g A c i data ∧ l = data.drop i ∧ EofAt W va ua
theorem rd_m (g : Nat) : ∀ w : World, (method 272 47 (.pointer (some ⟨g, 0, none⟩)) "Read").run Tryd.prog w = .ok (106, .pointer (some ⟨g, 0, none⟩)) w := fun _ => by kernel_rfl
theorem rd_n (g : Nat) : ∀ w : World, (nilAhead 272 47 (.pointer (some ⟨g, 0, none⟩)) "Read").run Tryd.prog w = .ok (some false) w := fun _ => by kernel_rfl
theorem rd_f : ∀ (args : Array Value) (w : World), (callFunc 106 args).run Tryd.prog w = .ok (.enter 106 args) w := fun _ _ => by kernel_rfl
theorem rdSpec_rd (g B : Nat) (A : Option Addr) (c : Nat) (data : List Int) (va ua : Addr) (hg : g < B) (hA : ∀ a, A = some a → a.block < B) (hlt : EofLt va ua g) :
    RdSpec 47 106 (.pointer (some ⟨g, 0, none⟩)) g B va ua (AtB g A c data va ua) where
  hm := rd_m g
  hn := rd_n g
  hcf := rd_f
  lt := hg
  eof := fun W l ⟨i, h1, h2, h3⟩ => h3.e1
  ueof := fun W l ⟨i, h1, h2, h3⟩ => h3.e2
  eofb := fun W l ⟨i, h1, h2, h3⟩ => ⟨h3.b1, h3.b2⟩
  keep := fun W W' l ⟨i, h1, h2, h3⟩ hk => ⟨i, h1.keep (hk g hg) (fun a ha => hk _ (hA a ha)), h2, h3.keep (S := fun _ => True) hlt (fun b hb => hk b (Nat.lt_trans hb hg))⟩
  none_ := by
    rintro W A' m c' ⟨i, h1, h2, h3⟩ _
    have hi : data.length ≤ i := by
      have := congrArg List.length h2
      rw [List.length_drop] at this
      simp at this
      omega
    refine (reader_none h1 hi (.slice A' m c') _ h3.e1).mono ?_
    rintro e w' ⟨he, rfl⟩
    exact ⟨he, ⟨i, h1.keep rfl (fun _ _ => rfl), h2, h3.keep (S := fun _ => True) hlt (fun _ _ => rfl)⟩, ((Only.refl _ W).drew).drew⟩
  some_ := by
    rintro W l pb po m pc cur ⟨i, h1, h2, h3⟩ hl hp hf hB
    have hi : i < data.length := by
      rcases Nat.lt_or_ge i data.length with h | h
      · exact h
      · exact absurd (h2.trans (List.drop_eq_nil_of_le h)) hl
    have hll : l.length = data.length - i := by rw [h2, List.length_drop]
    refine (reader_some h1 hi pb po m pc cur hp hf (by omega) (fun a ha _ => by have := hA a ha; omega)).mono ?_
    rintro e w' ⟨he, hr, ht⟩
    rw [← hll] at he hr ht
    rw [← h2] at ht
    refine ⟨he, ⟨_, hr, by rw [h2, List.drop_drop], h3.keep (S := fun _ => True) hlt (fun b hb => ht.2.block b ?_ ?_)⟩, ht⟩
    · have h4 := h3.lt
      have h5 := h1.hb
      obtain ⟨pr, h5⟩ := h5
      have := blk_lt h5
      omega
    · rintro (h | h) <;> omega
set_option maxHeartbeats 6400000 in
set_option maxRecDepth 100000 in
theorem newReader_any (A : Option Addr) (n c : Nat) (w : World) : Calls Tryd.prog 23 #[.slice A n c] w fun e w' => e = .returned (.pointer (some ⟨w.heap.size, 0, none⟩)) ∧ w' = w.alloc (.cells #[.slice A n c, .int .i64 0, .int .i64 (-1)] 59) := by
  go_enter Tryd.func23, Tryd.ntmps23
  go_wp2
  go_ret
  exact ⟨rfl, rfl⟩
theorem rd_start {W W1 W2 : World} {v : Value} {data : List Int} (hR : B8.R 5 W1 W.heap.size (fun _ => True) v data) (hW2 : W2 = W1.alloc (.cells #[v, .int .i64 0, .int .i64 (-1)] 59)) :
    ∃ A c, v = .slice A data.length c ∧ AtRd W2 W1.heap.size A c 0 data ∧ ∀ a, A = some a → a.block < W1.heap.size := by
  obtain ⟨A, c, hv, hl, hC⟩ := Kd.R_reads hR
  have hlt := Kd.R_lt hR
  obtain ⟨_, ho⟩ := int_own hR
  have hbig : c ≤ 9223372036854775807 := by
    rcases ho with ⟨h, _⟩ | ⟨g', cap', cur, hv', hg, hh, h1, h2, h3, h4⟩
    · rw [hv] at h
      injection h with _ _ h
      omega
    · rw [hv] at hv'
      injection hv' with _ _ h
      subst h
      unfold maxLen at h2
      omega
  subst hv
  have hb2 : Below W1.heap.size W1 W2 := by rw [hW2]; exact below_alloc (Below.refl _ _) _
  have hA : ∀ a, A = some a → a.block < W1.heap.size := fun a ha => hlt a.block (by rw [ha]; rfl)
  exact ⟨A, c, rfl, ⟨⟨-1, by rw [hW2]; exact blk_new _ _⟩, Kd.C_below hC hb2, Nat.zero_le _, hl, hbig, fun a ha _ => by have := hA a ha; omega⟩, hA⟩
set_option maxHeartbeats 6400000 in
set_option maxRecDepth 100000 in
theorem rdLen_any {W : World} {g : Nat} {A : Option Addr} {c i : Nat} {data : List Int} (h : AtRd W g A c i data) : Calls Tryd.prog 27 #[.pointer (some ⟨g, 0, none⟩)] W fun e w' => e = .returned (.int .i64 ((data.length - i : Nat) : Int)) ∧ ∃ n, w' = W.drewN n := by
  obtain ⟨⟨pr, hb⟩, hrd, hle, hcap, hbig, hfar⟩ := h
  have c0 : W.drew.cell? ⟨g, 0, none⟩ = some (.slice A data.length c) := blk_cell hb 0
  have c1 : W.drew.cell? ⟨g, 1, none⟩ = some (.int .i64 i) := blk_cell hb 1
  have hi1 : (i : Int) ≤ 9223372036854775807 := by omega
  have hd1 : (data.length : Int) ≤ 9223372036854775807 := by omega
  have hi0 : 0 ≤ (i : Int) := by omega
  have hd0 : 0 ≤ (data.length : Int) := by omega
  have HLE := Lib.hid hle
  by_cases hi : data.length ≤ i
  · have e1 : decide ((data.length : Int) ≤ (i : Int)) = true := decide_eq_true (by omega)
    have e2 : decide (data.length ≤ i) = true := decide_eq_true hi
    have HI := Lib.hid hi
    clear hb hrd hle hcap hbig hfar hi
    go_enter Tryd.func27, Tryd.ntmps27
    go_wp2_with fail
    refine start_ (n := 10) (S := fun w' => w'.cell? ⟨g, 1, none⟩ = some (.int .i64 i) ∧ w'.cell? ⟨g, 0, none⟩ = some (.slice A data.length c)) (ds := []) #[nN,nN,nN,nN,nN,nN,nN,nN,nN,nN] (by kernel_rfl) rfl rfl ⟨c1, c0⟩ (fun hHeld => ?_)
    refine pure_ (i := 0) (N := some 3) (v := ?_) (a' := ?_) #[yY,nN,nN,nN,nN,nN,nN,nN,nN,nN] rfl rfl (by kernel_rfl) (fun _ _ _ h => h) (Or.inl ⟨by rfl, ?_⟩) ?_ ?_
    rotate_left
    · intro w'
      go_simp
      with_reducible rfl
    rotate_left
    · simp only [Act.put, List.setIfInBounds_toArray, List.set_cons_zero, List.set_cons_succ, i64_w, i32_w]
      rfl
    refine pure_ (i := 1) (N := some 4) (v := ?_) (a' := ?_) #[yY,yY,nN,nN,nN,nN,nN,nN,nN,nN] rfl rfl (by kernel_rfl) (fun _ _ _ h => h) (Or.inl ⟨by rfl, ?_⟩) ?_ ?_
    rotate_left
    · intro w'
      go_simp
      with_reducible rfl
    rotate_left
    · simp only [Act.put, List.setIfInBounds_toArray, List.set_cons_zero, List.set_cons_succ, i64_w, i32_w]
      rfl
    refine pure_ (i := 2) (N := some 5) (v := ?_) (a' := ?_) #[yY,yY,yY,nN,nN,nN,nN,nN,nN,nN] rfl rfl (by kernel_rfl) (fun _ _ _ h => h) (Or.inl ⟨by rfl, ?_⟩) ?_ ?_
    rotate_left
    · intro w'
      go_simp
      with_reducible rfl
    rotate_left
    · simp only [Act.put, List.setIfInBounds_toArray, List.set_cons_zero, List.set_cons_succ, i64_w, i32_w]
      rfl
    refine pure_ (i := 4) (N := some 7) (v := ?_) (a' := ?_) #[yY,yY,yY,nN,yY,nN,nN,nN,nN,nN] rfl rfl (by kernel_rfl) (fun _ _ _ h => h) (Or.inl ⟨by rfl, ?_⟩) ?_ ?_
    rotate_left
    · intro w'
      go_simp
      with_reducible rfl
    rotate_left
    · simp only [Act.put, List.setIfInBounds_toArray, List.set_cons_zero, List.set_cons_succ, i64_w, i32_w]
      rfl
    refine pure_ (i := 5) (N := some 8) (v := ?_) (a' := ?_) #[yY,yY,yY,nN,yY,yY,nN,nN,nN,nN] rfl rfl (by kernel_rfl) (fun _ _ _ h => h) (Or.inl ⟨by rfl, ?_⟩) ?_ ?_
    rotate_left
    · intro w'
      go_simp
      with_reducible rfl
    rotate_left
    · simp only [Act.put, List.setIfInBounds_toArray, List.set_cons_zero, List.set_cons_succ, i64_w, i32_w]
      rfl
    refine pure_ (i := 6) (N := some 9) (v := ?_) (a' := ?_) #[yY,yY,yY,nN,yY,yY,yY,nN,nN,nN] rfl rfl (by kernel_rfl) (fun _ _ _ h => h) (Or.inl ⟨by rfl, ?_⟩) ?_ ?_
    rotate_left
    · intro w'
      go_simp
      with_reducible rfl
    rotate_left
    · simp only [Act.put, List.setIfInBounds_toArray, List.set_cons_zero, List.set_cons_succ, i64_w, i32_w]
      rfl
    refine take_ (i := 3) (N := some 6) (v := ?_) (a' := ?_) #[yY,yY,yY,yY,yY,yY,yY,nN,nN,nN] rfl rfl (by kernel_rfl) (fun _ _ _ h => h) (Or.inl ⟨by rfl, ?_⟩) hHeld ?_ ?_
    rotate_left
    · rintro w' ⟨s0, s1⟩
      go_simp
      with_reducible rfl
    rotate_left
    · simp only [Act.put, List.setIfInBounds_toArray, List.set_cons_zero, List.set_cons_succ, i64_w, i32_w]
      rfl
    refine take_ (i := 7) (N := some 10) (v := ?_) (a' := ?_) #[yY,yY,yY,yY,yY,yY,yY,yY,nN,nN] rfl rfl (by kernel_rfl) (fun _ _ _ h => h) (Or.inl ⟨by rfl, ?_⟩) hHeld ?_ ?_
    rotate_left
    · rintro w' ⟨s0, s1⟩
      go_simp
      with_reducible rfl
    rotate_left
    · simp only [Act.put, List.setIfInBounds_toArray, List.set_cons_zero, List.set_cons_succ, i64_w, i32_w]
      rfl
    refine pure_ (i := 8) (N := some 11) (v := ?_) (a' := ?_) #[yY,yY,yY,yY,yY,yY,yY,yY,yY,nN] rfl rfl (by kernel_rfl) (fun _ _ _ h => h) (Or.inl ⟨by rfl, ?_⟩) ?_ ?_
    rotate_left
    · intro w'
      go_simp
      with_reducible rfl
    rotate_left
    · simp only [Act.put, List.setIfInBounds_toArray, List.set_cons_zero, List.set_cons_succ, i64_w, i32_w]
      rfl
    refine pure_ (i := 9) (N := some 12) (v := ?_) (a' := ?_) #[yY,yY,yY,yY,yY,yY,yY,yY,yY,yY] rfl rfl (by kernel_rfl) (fun _ _ _ h => h) (Or.inl ⟨by rfl, ?_⟩) ?_ ?_
    rotate_left
    · intro w'
      go_simp
      with_reducible rfl
    rotate_left
    · simp only [Act.put, List.setIfInBounds_toArray, List.set_cons_zero, List.set_cons_succ, i64_w, i32_w]
      rfl
    refine done_ (by kernel_rfl) ?_
    go_wp2
    go_ret
    have e : data.length - i = 0 := by have := HI.out; omega
    rw [e]
    exact ⟨rfl, 1, rfl⟩
  · have e1 : decide ((data.length : Int) ≤ (i : Int)) = false := decide_eq_false (by omega)
    have e2 : decide (data.length ≤ i) = false := decide_eq_false hi
    have HI := Lib.hid hi
    have d0 : W.drew.drew.cell? ⟨g, 0, none⟩ = some (.slice A data.length c) := c0
    have d1 : W.drew.drew.cell? ⟨g, 1, none⟩ = some (.int .i64 i) := c1
    clear hb hrd hle hcap hbig hfar hi
    go_enter Tryd.func27, Tryd.ntmps27
    go_wp2_with fail
    refine start_ (n := 10) (S := fun w' => w'.cell? ⟨g, 1, none⟩ = some (.int .i64 i) ∧ w'.cell? ⟨g, 0, none⟩ = some (.slice A data.length c)) (ds := []) #[nN,nN,nN,nN,nN,nN,nN,nN,nN,nN] (by kernel_rfl) rfl rfl ⟨c1, c0⟩ (fun hHeld => ?_)
    refine pure_ (i := 0) (N := some 3) (v := ?_) (a' := ?_) #[yY,nN,nN,nN,nN,nN,nN,nN,nN,nN] rfl rfl (by kernel_rfl) (fun _ _ _ h => h) (Or.inl ⟨by rfl, ?_⟩) ?_ ?_
    rotate_left
    · intro w'
      go_simp
      with_reducible rfl
    rotate_left
    · simp only [Act.put, List.setIfInBounds_toArray, List.set_cons_zero, List.set_cons_succ, i64_w, i32_w]
      rfl
    refine pure_ (i := 1) (N := some 4) (v := ?_) (a' := ?_) #[yY,yY,nN,nN,nN,nN,nN,nN,nN,nN] rfl rfl (by kernel_rfl) (fun _ _ _ h => h) (Or.inl ⟨by rfl, ?_⟩) ?_ ?_
    rotate_left
    · intro w'
      go_simp
      with_reducible rfl
    rotate_left
    · simp only [Act.put, List.setIfInBounds_toArray, List.set_cons_zero, List.set_cons_succ, i64_w, i32_w]
      rfl
    refine pure_ (i := 2) (N := some 5) (v := ?_) (a' := ?_) #[yY,yY,yY,nN,nN,nN,nN,nN,nN,nN] rfl rfl (by kernel_rfl) (fun _ _ _ h => h) (Or.inl ⟨by rfl, ?_⟩) ?_ ?_
    rotate_left
    · intro w'
      go_simp
      with_reducible rfl
    rotate_left
    · simp only [Act.put, List.setIfInBounds_toArray, List.set_cons_zero, List.set_cons_succ, i64_w, i32_w]
      rfl
    refine pure_ (i := 4) (N := some 7) (v := ?_) (a' := ?_) #[yY,yY,yY,nN,yY,nN,nN,nN,nN,nN] rfl rfl (by kernel_rfl) (fun _ _ _ h => h) (Or.inl ⟨by rfl, ?_⟩) ?_ ?_
    rotate_left
    · intro w'
      go_simp
      with_reducible rfl
    rotate_left
    · simp only [Act.put, List.setIfInBounds_toArray, List.set_cons_zero, List.set_cons_succ, i64_w, i32_w]
      rfl
    refine pure_ (i := 5) (N := some 8) (v := ?_) (a' := ?_) #[yY,yY,yY,nN,yY,yY,nN,nN,nN,nN] rfl rfl (by kernel_rfl) (fun _ _ _ h => h) (Or.inl ⟨by rfl, ?_⟩) ?_ ?_
    rotate_left
    · intro w'
      go_simp
      with_reducible rfl
    rotate_left
    · simp only [Act.put, List.setIfInBounds_toArray, List.set_cons_zero, List.set_cons_succ, i64_w, i32_w]
      rfl
    refine pure_ (i := 6) (N := some 9) (v := ?_) (a' := ?_) #[yY,yY,yY,nN,yY,yY,yY,nN,nN,nN] rfl rfl (by kernel_rfl) (fun _ _ _ h => h) (Or.inl ⟨by rfl, ?_⟩) ?_ ?_
    rotate_left
    · intro w'
      go_simp
      with_reducible rfl
    rotate_left
    · simp only [Act.put, List.setIfInBounds_toArray, List.set_cons_zero, List.set_cons_succ, i64_w, i32_w]
      rfl
    refine take_ (i := 3) (N := some 6) (v := ?_) (a' := ?_) #[yY,yY,yY,yY,yY,yY,yY,nN,nN,nN] rfl rfl (by kernel_rfl) (fun _ _ _ h => h) (Or.inl ⟨by rfl, ?_⟩) hHeld ?_ ?_
    rotate_left
    · rintro w' ⟨s0, s1⟩
      go_simp
      with_reducible rfl
    rotate_left
    · simp only [Act.put, List.setIfInBounds_toArray, List.set_cons_zero, List.set_cons_succ, i64_w, i32_w]
      rfl
    refine take_ (i := 7) (N := some 10) (v := ?_) (a' := ?_) #[yY,yY,yY,yY,yY,yY,yY,yY,nN,nN] rfl rfl (by kernel_rfl) (fun _ _ _ h => h) (Or.inl ⟨by rfl, ?_⟩) hHeld ?_ ?_
    rotate_left
    · rintro w' ⟨s0, s1⟩
      go_simp
      with_reducible rfl
    rotate_left
    · simp only [Act.put, List.setIfInBounds_toArray, List.set_cons_zero, List.set_cons_succ, i64_w, i32_w]
      rfl
    refine pure_ (i := 8) (N := some 11) (v := ?_) (a' := ?_) #[yY,yY,yY,yY,yY,yY,yY,yY,yY,nN] rfl rfl (by kernel_rfl) (fun _ _ _ h => h) (Or.inl ⟨by rfl, ?_⟩) ?_ ?_
    rotate_left
    · intro w'
      go_simp
      with_reducible rfl
    rotate_left
    · simp only [Act.put, List.setIfInBounds_toArray, List.set_cons_zero, List.set_cons_succ, i64_w, i32_w]
      rfl
    refine pure_ (i := 9) (N := some 12) (v := ?_) (a' := ?_) #[yY,yY,yY,yY,yY,yY,yY,yY,yY,yY] rfl rfl (by kernel_rfl) (fun _ _ _ h => h) (Or.inl ⟨by rfl, ?_⟩) ?_ ?_
    rotate_left
    · intro w'
      go_simp
      with_reducible rfl
    rotate_left
    · simp only [Act.put, List.setIfInBounds_toArray, List.set_cons_zero, List.set_cons_succ, i64_w, i32_w]
      rfl
    refine done_ (by kernel_rfl) ?_
    go_upto_region 3 with fail
    refine start_ (n := 11) (S := fun w' => w'.cell? ⟨g, 0, none⟩ = some (.slice A data.length c) ∧ w'.cell? ⟨g, 1, none⟩ = some (.int .i64 i)) (ds := []) #[nN,nN,nN,nN,nN,nN,nN,nN,nN,nN,nN] (by kernel_rfl) rfl rfl ⟨d0, d1⟩ (fun hHeld => ?_)
    refine pure_ (i := 0) (N := some 13) (v := ?_) (a' := ?_) #[yY,nN,nN,nN,nN,nN,nN,nN,nN,nN,nN] rfl rfl (by kernel_rfl) (fun _ _ _ h => h) (Or.inl ⟨by rfl, ?_⟩) ?_ ?_
    rotate_left
    · intro w'
      go_simp
      with_reducible rfl
    rotate_left
    · simp only [Act.put, List.setIfInBounds_toArray, List.set_cons_zero, List.set_cons_succ, i64_w, i32_w]
      rfl
    refine pure_ (i := 1) (N := some 14) (v := ?_) (a' := ?_) #[yY,yY,nN,nN,nN,nN,nN,nN,nN,nN,nN] rfl rfl (by kernel_rfl) (fun _ _ _ h => h) (Or.inl ⟨by rfl, ?_⟩) ?_ ?_
    rotate_left
    · intro w'
      go_simp
      with_reducible rfl
    rotate_left
    · simp only [Act.put, List.setIfInBounds_toArray, List.set_cons_zero, List.set_cons_succ, i64_w, i32_w]
      rfl
    refine pure_ (i := 2) (N := some 15) (v := ?_) (a' := ?_) #[yY,yY,yY,nN,nN,nN,nN,nN,nN,nN,nN] rfl rfl (by kernel_rfl) (fun _ _ _ h => h) (Or.inl ⟨by rfl, ?_⟩) ?_ ?_
    rotate_left
    · intro w'
      go_simp
      with_reducible rfl
    rotate_left
    · simp only [Act.put, List.setIfInBounds_toArray, List.set_cons_zero, List.set_cons_succ, i64_w, i32_w]
      rfl
    refine pure_ (i := 5) (N := some 18) (v := ?_) (a' := ?_) #[yY,yY,yY,nN,nN,yY,nN,nN,nN,nN,nN] rfl rfl (by kernel_rfl) (fun _ _ _ h => h) (Or.inl ⟨by rfl, ?_⟩) ?_ ?_
    rotate_left
    · intro w'
      go_simp
      with_reducible rfl
    rotate_left
    · simp only [Act.put, List.setIfInBounds_toArray, List.set_cons_zero, List.set_cons_succ, i64_w, i32_w]
      rfl
    refine pure_ (i := 6) (N := some 19) (v := ?_) (a' := ?_) #[yY,yY,yY,nN,nN,yY,yY,nN,nN,nN,nN] rfl rfl (by kernel_rfl) (fun _ _ _ h => h) (Or.inl ⟨by rfl, ?_⟩) ?_ ?_
    rotate_left
    · intro w'
      go_simp
      with_reducible rfl
    rotate_left
    · simp only [Act.put, List.setIfInBounds_toArray, List.set_cons_zero, List.set_cons_succ, i64_w, i32_w]
      rfl
    refine pure_ (i := 7) (N := some 20) (v := ?_) (a' := ?_) #[yY,yY,yY,nN,nN,yY,yY,yY,nN,nN,nN] rfl rfl (by kernel_rfl) (fun _ _ _ h => h) (Or.inl ⟨by rfl, ?_⟩) ?_ ?_
    rotate_left
    · intro w'
      go_simp
      with_reducible rfl
    rotate_left
    · simp only [Act.put, List.setIfInBounds_toArray, List.set_cons_zero, List.set_cons_succ, i64_w, i32_w]
      rfl
    refine take_ (i := 3) (N := some 16) (v := ?_) (a' := ?_) #[yY,yY,yY,yY,nN,yY,yY,yY,nN,nN,nN] rfl rfl (by kernel_rfl) (fun _ _ _ h => h) (Or.inl ⟨by rfl, ?_⟩) hHeld ?_ ?_
    rotate_left
    · rintro w' ⟨s0, s1⟩
      go_simp
      with_reducible rfl
    rotate_left
    · simp only [Act.put, List.setIfInBounds_toArray, List.set_cons_zero, List.set_cons_succ, i64_w, i32_w]
      rfl
    refine pure_ (i := 4) (N := some 17) (v := ?_) (a' := ?_) #[yY,yY,yY,yY,yY,yY,yY,yY,nN,nN,nN] rfl rfl (by kernel_rfl) (fun _ _ _ h => h) (Or.inl ⟨by rfl, ?_⟩) ?_ ?_
    rotate_left
    · intro w'
      go_simp
      with_reducible rfl
    rotate_left
    · simp only [Act.put, List.setIfInBounds_toArray, List.set_cons_zero, List.set_cons_succ, i64_w, i32_w]
      rfl
    refine take_ (i := 8) (N := some 21) (v := ?_) (a' := ?_) #[yY,yY,yY,yY,yY,yY,yY,yY,yY,nN,nN] rfl rfl (by kernel_rfl) (fun _ _ _ h => h) (Or.inl ⟨by rfl, ?_⟩) hHeld ?_ ?_
    rotate_left
    · rintro w' ⟨s0, s1⟩
      go_simp
      with_reducible rfl
    rotate_left
    · simp only [Act.put, List.setIfInBounds_toArray, List.set_cons_zero, List.set_cons_succ, i64_w, i32_w]
      rfl
    refine pure_ (i := 9) (N := some 22) (v := ?_) (a' := ?_) #[yY,yY,yY,yY,yY,yY,yY,yY,yY,yY,nN] rfl rfl (by kernel_rfl) (fun _ _ _ h => h) (Or.inl ⟨by rfl, ?_⟩) ?_ ?_
    rotate_left
    · intro w'
      go_simp
      with_reducible rfl
    rotate_left
    · simp only [Act.put, List.setIfInBounds_toArray, List.set_cons_zero, List.set_cons_succ, i64_w, i32_w]
      rfl
    refine pure_ (i := 10) (N := some 2) (v := ?_) (a' := ?_) #[yY,yY,yY,yY,yY,yY,yY,yY,yY,yY,yY] rfl rfl (by kernel_rfl) (fun _ _ _ h => h) (Or.inl ⟨by rfl, ?_⟩) ?_ ?_
    rotate_left
    · intro w'
      go_simp
      with_reducible rfl
    rotate_left
    · simp only [Act.put, List.setIfInBounds_toArray, List.set_cons_zero, List.set_cons_succ, i64_w, i32_w]
      rfl
    refine done_ (by kernel_rfl) ?_
    go_wp2
    go_ret
    have ew : wrap64 ((data.length : Int) - (i : Int)) = ((data.length - i : Nat) : Int) := by have := HI.out; unfold wrap64; omega
    exact ⟨congrArg (fun z => Ending.returned (.int .i64 z)) ew, 2, rfl⟩
section
variable {T F : Nat} {r : Value} {g B : Nat} {va ua : Addr} {Q : World → List Int → Prop}
set_option maxHeartbeats 6400000 in
set_option maxRecDepth 100000 in
theorem rdPacket_any (R : RdSpec T F r g B va ua Q) (x : S29) (hd : dpx x ≤ 1000) (hkp : kp x) (hg : good x = true) (hts : tsize x ≤ 1000000) (W : World) (l m : List Int) (n : Nat) (hQ : Q W l) (hB : B ≤ W.heap.size) (hP : Par (l ++ m) x n) (hx : ∀ y ∈ l ++ m, 0 ≤ y ∧ y < 256) (hl : (l ++ m).length ≤ 1000000) :
    Calls Tryd.prog 25 #[.iface T r] W fun e w' => (n ≤ l.length → ∃ b, e = .returned (.tuple #[.pointer (some ⟨b, 0, none⟩), .nilIface]) ∧ IsPk w' W.heap.size (fun _ => True) b (rdPk x) ∧ Q w' (l.drop n)) ∧
      (l.length < n → ∃ v, e = .returned (.tuple #[.pointer none, (.iface 104 (.pointer (some v)))]) ∧ (v = va ∨ v = ua)) ∧ Only (fun i => i = g) W w' := by
  have HP := readPk R 1000 x hd hkp hg hts W l m n 0 hQ hB hP hx hl (Int.le_refl 0) (by decide)
  clear R hd hkp hg hts hQ hB hP hx hl
  by_cases hn : n ≤ l.length
  · have HP2 : Hid (Calls Tryd.prog 32 #[.iface T r, .int .i64 0] W fun e w' => ∃ b, e = .returned (.tuple #[.pointer (some ⟨b, 0, none⟩), .int .i64 n, .nilIface]) ∧ IsPk w' W.heap.size (fun _ => True) b (rdPk x) ∧ Q w' (l.drop n) ∧ Only (fun i => i = g) W w') := Lib.hid (HP.mono (by
      rintro e w' ⟨h1, _, ho⟩
      obtain ⟨b, h2, h3, h4⟩ := h1 hn
      exact ⟨b, h2, h3, h4, ho⟩))
    have HN := Lib.hid hn
    clear HP hn
    go_enter Tryd.func25, Tryd.ntmps25
    go_wp2_with (go_at_call 32
                 with_reducible refine HP2.out.mono ?_
                 rintro e W1 ⟨b, rfl, hI, hq, ho⟩
                 have HI := Lib.hid (And.intro hI (And.intro hq ho))
                 clear hI hq ho)
    go_ret2
    exact ⟨fun _ => ⟨b, rfl, HI.out.1, HI.out.2.1⟩, fun h => absurd h (by have := HN.out; omega), HI.out.2.2⟩
  · have HP2 : Hid (Calls Tryd.prog 32 #[.iface T r, .int .i64 0] W fun e w' => ∃ q v, e = .returned (.tuple #[.pointer none, .int .i64 q, (.iface 104 (.pointer (some v)))]) ∧ (v = va ∨ v = ua) ∧ Only (fun i => i = g) W w') := Lib.hid (HP.mono (by
      rintro e w' ⟨_, h1, ho⟩
      obtain ⟨⟨q, v, h2, h3⟩, h4⟩ := h1 (by omega)
      exact ⟨q, v, h2, h3, ho⟩))
    have HN := Lib.hid hn
    clear HP hn
    go_enter Tryd.func25, Tryd.ntmps25
    go_wp2_with (go_at_call 32
                 with_reducible refine HP2.out.mono ?_
                 rintro e W1 ⟨q, v, rfl, hv, ho⟩
                 have HI := Lib.hid (And.intro hv ho)
                 clear hv ho)
    go_ret2
    exact ⟨fun h => absurd h (by have := HN.out; omega), fun _ => ⟨v, rfl, HI.out.1⟩, HI.out.2⟩
end
end Go.Proofs.YtejbpbdlolehnaaDoor.Ber
namespace Go.Proofs.YtejbpbdlolehnaaDoor.Ber
open Go.RowKit Go.Proofs.YtejbpbdlolehnaaDoorW.PrintWords Go.Proofs.YtejbpbdlolehnaaDoorW.PrintLast Go.Proofs.YtejbpbdlolehnaaDoor.Buf Go.Proofs.YtejbpbdlolehnaaDoor.Pk Go.Proofs.YtejbpbdlolehnaaDoor.Tree Go.Proofs.YtejbpbdlolehnaaDoor.Num Go.Proofs.YtejbpbdlolehnaaDoor.Ident Go.Proofs.YtejbpbdlolehnaaDoor.PFnEncode
set_option linter.unusedVariables false
set_option linter.unusedSimpArgs false
theorem catch_idle (p : Addr) (w : World) :
    CallsD Tryd.prog 31 #[.pointer (some p)] .returning w fun e u' w' => e = .returned (.tuple #[]) ∧ u' = .returning ∧ w' = w := by
  refine callsD_of_wpS Tryd.func31 rfl fun c₀ cs hu => ?_
  apply wpS_seq
  apply wpS_region
  simp [wpOpsS, go_sem, recoverD, hu, Tryd.ntmps31, Exit.thenS]
  refine wpS_cond (t := false) (by simp [Act.eval, Array.replicate]) ?_
  simp only [Bool.false_eq_true, if_false]
  refine wpS_of_wp (wp_skip ?_)
  cases c₀
  simp_all [bodyPostS, results, Tryd.results31]

set_option maxHeartbeats 1600000 in
set_option maxRecDepth 100000 in
/-- safely: what the closure answers, and the memory as it left it. -/
theorem safely_any (cap : Array Value) (b : Bool) (Q : World → Prop) (w : World)
    (h : ∀ W, W = w.alloc (.cells #[.bool false] 4) → Calls Tryd.prog 22 cap W fun e w' => e = .returned (.bool b) ∧ Q w' ∧ w'.heap[w.heap.size]? = some (.cells #[.bool false] 4 (0, 0))) :
    Calls Tryd.prog 21 #[.func (.func 22) #[] cap] w fun e w' => e = .returned (.bool b) ∧ ∃ W, Q W ∧ w' = W.setCell ⟨w.heap.size, 0, none⟩ (.bool b) := by
  have hmf : ∀ (fn : Fn) (first cap : Array Value) (w : World), (Instr.makeFunc fn first cap).run Tryd.prog w = .ok (.func fn first cap) w := fun _ _ _ _ => rfl
  obtain ⟨W1, hW1⟩ : ∃ W1, W1 = w.alloc (.cells #[.bool false] 4) := ⟨_, rfl⟩
  have HC := Lib.hid (h W1 hW1)
  clear h
  go_enter_defers Tryd.func21, Tryd.ntmps21
  go_wp2_with (go_at_call 22
               rw [← hW1]
               with_reducible refine HC.out.mono ?_
               rintro e W2 ⟨rfl, hQ, hx⟩
               have c0 : W2.cell? ⟨w.heap.size, 0, none⟩ = some (.bool false) := blk_cell hx 0
               have f0 := blk_frozen hx 0)
  refine leaves_cons (f := 31) (args := #[.pointer (some ⟨w.heap.size, 0, none⟩)]) (by simp) (by simp [go_sem]) ?_
  refine (catch_idle ⟨w.heap.size, 0, none⟩ _).mono ?_
  rintro e u' w'' ⟨rfl, rfl, rfl⟩
  have h5 := blk_set hx 0 (.bool b)
  have c5 := blk_cell h5 0
  simp at c5
  simp [Leaves, settle, results, Tryd.results21, go_sem, c5]
  exact ⟨W2, hQ, rfl⟩
/-- the five cells were stored -/
theorem store5 {W W3 : World} {g : Nat} {z0 z1 z2 z3 z4 v0 v1 v2 v3 v4 : Value} (h : W.heap[g]? = some (.cells #[z0, z1, z2, z3, z4] 25 (0, 0)))
    (hW3 : W3 = (((((W.setCell ⟨g, 0, none⟩ v0).setCell ⟨g, 1, none⟩ v1).setCell ⟨g, 2, none⟩ v2).setCell ⟨g, 3, none⟩ v3).setCell ⟨g, 4, none⟩ v4)) :
    W3.heap[g]? = some (.cells #[v0, v1, v2, v3, v4] 25 (0, 0)) ∧ Only (fun i => i = g) W W3 := by
  subst hW3
  exact ⟨blk_set (blk_set (blk_set (blk_set (blk_set h 0 v0) 1 v1) 2 v2) 3 v3) 4 v4,
    (((((Only.refl (fun i => i = g) W).setCell (a := ⟨g, 0, none⟩) (fun _ => rfl) _).setCell (a := ⟨g, 1, none⟩) (fun _ => rfl) _).setCell (a := ⟨g, 2, none⟩) (fun _ => rfl) _).setCell (a := ⟨g, 3, none⟩) (fun _ => rfl) _).setCell (a := ⟨g, 4, none⟩) (fun _ => rfl) _⟩

mutual
theorem ok_rd : ∀ x : S29, good x = true → tsize x ≤ 1000000 → okP (rdPk x)
  | ⟨a, b, c, d, l⟩, hg, ht => by
    have hs := rd_small hg ht
    have hl := ok_rdL l (by rw [good] at hg; simp only [Bool.and_eq_true] at hg; exact hg.2) (by rw [tsize] at ht; omega)
    rw [good] at hg
    simp only [Bool.and_eq_true, decide_eq_true_eq] at hg
    obtain ⟨⟨⟨⟨⟨a0, a1⟩, b0⟩, b1⟩, hc⟩, hgl⟩ := hg
    rw [rdPk] at hs ⊢
    rw [okP]
    refine ⟨by omega, ?_, ⟨b0, b1⟩, by simp only at hs; omega, by simp only at hs; omega, ?_⟩
    · cases c <;> simp
    · cases c
      · simp only [Bool.false_eq_true, if_false]; rw [okL]; trivial
      · simp only [if_true]; exact hl
theorem ok_rdL : ∀ l : List S29, goodL l = true → tsizeL l ≤ 1000000 → okL (rdL l)
  | [], _, _ => by rw [rdL, okL]; trivial
  | x :: xs, hg, ht => by
    rw [goodL, Bool.and_eq_true] at hg
    rw [tsizeL] at ht
    rw [rdL, okL]
    exact ⟨ok_rd x hg.1 (by omega), ok_rdL xs hg.2 (by omega)⟩
end
mutual
theorem mir_rd : ∀ x : S29, good x = true → mir (trOf (rdPk x)) = x
  | ⟨a, b, c, d, l⟩, hg => by
    have hl := mir_rdL l (by rw [good] at hg; simp only [Bool.and_eq_true] at hg; exact hg.2)
    rw [good] at hg
    simp only [Bool.and_eq_true, decide_eq_true_eq] at hg
    obtain ⟨⟨⟨⟨⟨a0, a1⟩, b0⟩, b1⟩, hc⟩, hgl⟩ := hg
    have e : a * 64 / 64 = a := by omega
    rw [rdPk, trOf, mir, e]
    cases c with
    | false =>
      have : l = [] := by simpa using hc
      subst this
      simp [trL, mirL]
    | true =>
      have : d = [] := by simpa using hc
      subst this
      simp [hl]
theorem mir_rdL : ∀ l : List S29, goodL l = true → mirL (trL (rdL l)) = l
  | [], _ => by rw [rdL, trL, mirL]
  | x :: xs, hg => by
    rw [goodL, Bool.and_eq_true] at hg
    rw [rdL, trL, mirL, mir_rd x hg.1, mir_rdL xs hg.2]
end
/-- the packet in the result's cells -/
def InRes (W : World) (gp base : Nat) (y : S25) : Prop := ∃ A3 c3 A4 c4, W.heap[gp]? = some (.cells #[.int .i64 y.f0, .int .i64 y.f1, .bool y.f2, .slice A3 y.f3.length c3, .slice A4 y.f4.length c4] 25 (0, 0)) ∧ B8.R 5 W base (fun _ => True) (.slice A3 y.f3.length c3) y.f3 ∧ k25.R 25 W base (fun _ => True) (.slice A4 y.f4.length c4) y.f4
set_option maxHeartbeats 6400000 in
set_option maxRecDepth 100000 in
theorem dec_closure (x : S29) (hd : dpx x ≤ 1000) (hkp : kp x) (hg : good x = true) (hts : tsize x ≤ 1000000) (va ua : Addr) (A : Option Addr) (cc a gp gr : Nat) (data m : List Int) (n : Nat) (W : World) (hE : EofAt W va ua) (hA : B8.C W A data.length data) (hP : Par (data ++ m) x n) (hx : ∀ y ∈ data ++ m, 0 ≤ y ∧ y < 256) (hl : (data ++ m).length ≤ 1000000)
    (ha : W.heap[a]? = some (.cells #[.slice A data.length cc] 22 (0, 0))) (hgp : W.heap[gp]? = some (.cells #[.int .i64 0, .int .i64 0, .bool false, .slice none 0 0, .slice none 0 0] 25 (0, 0))) (hgr : W.heap[gr]? = some (.cells #[.int .i64 0] 3 (0, 0))) :
    Calls Tryd.prog 22 #[.pointer (some ⟨a, 0, none⟩), .pointer (some ⟨gp, 0, none⟩), .pointer (some ⟨gr, 0, none⟩)] W fun e w' => (n ≤ data.length → e = .returned (.bool true) ∧ InRes w' gp W.heap.size (trOf (rdPk x)) ∧ w'.heap[gr]? = some (.cells #[.int .i64 ((data.length - n : Nat) : Int)] 3 (0, 0))) ∧
      (data.length < n → e = .returned (.bool false) ∧ w'.heap[gp]? = some (.cells #[.int .i64 0, .int .i64 0, .bool false, .slice none 0 0, .slice none 0 0] 25 (0, 0)) ∧ w'.heap[gr]? = some (.cells #[.int .i64 0] 3 (0, 0))) ∧ Only (fun i => i = gp ∨ i = gr) W w' := by
  have hll : data.length ≤ 1000000 := by rw [List.length_append] at hl; omega
  have HCL := Lib.hid (clone_any data A cc W hA (by omega))
  have c0 : W.cell? ⟨a, 0, none⟩ = some (.slice A data.length cc) := blk_cell ha 0
  have HE := Lib.hid hE
  have HNR : Hid (∀ W1 v, B8.R 5 W1 W.heap.size (fun _ => True) v data → Below W.heap.size W W1 → ∃ A1 c1, v = .slice A1 data.length c1 ∧ (∀ a, A1 = some a → a.block < W1.heap.size) ∧ ∀ W2, W2 = W1.alloc (.cells #[v, .int .i64 0, .int .i64 (-1)] 59) → Below W1.heap.size W1 W2 ∧ AtB W1.heap.size A1 c1 data va ua W2 data ∧ RdSpec 47 106 (.pointer (some ⟨W1.heap.size, 0, none⟩)) W1.heap.size W2.heap.size va ua (AtB W1.heap.size A1 c1 data va ua)) := Lib.hid (fun W1 v hR hb => by
    obtain ⟨A1, c1, hv, _, hAl1⟩ := rd_start hR rfl
    refine ⟨A1, c1, hv, hAl1, fun W2 hW2 => ?_⟩
    obtain ⟨A2, c2, hv2, h0, hAl⟩ := rd_start hR hW2
    rw [hv] at hv2
    injection hv2 with e1 _ e2
    subst e1 e2
    have hb2 : Below W1.heap.size W1 W2 := by rw [hW2]; exact below_alloc (Below.refl _ _) _
    have hs2 : W2.heap.size = W1.heap.size + 1 := by rw [hW2]; simp
    have hE2 : EofAt W2 va ua := (hE.keep (S := fun _ => True) hE.lt hb.block).keep (S := fun _ => True) (n := W1.heap.size) ⟨Nat.lt_of_lt_of_le hE.lt.1 hb.size, Nat.lt_of_lt_of_le hE.lt.2.1 hb.size, Nat.lt_of_lt_of_le hE.lt.2.2.1 hb.size, Nat.lt_of_lt_of_le hE.lt.2.2.2 hb.size⟩ hb2.block
    exact ⟨hb2, ⟨0, h0, rfl, hE2⟩, rdSpec_rd _ _ A1 c1 data va ua (by omega) (fun a ha => by have := hAl a ha; omega) ⟨Nat.lt_of_lt_of_le hE.lt.1 hb.size, Nat.lt_of_lt_of_le hE.lt.2.1 hb.size, Nat.lt_of_lt_of_le hE.lt.2.2.1 hb.size, Nat.lt_of_lt_of_le hE.lt.2.2.2 hb.size⟩⟩)
  have HRP : Hid (∀ W1 W2 A1 c1, Below W1.heap.size W1 W2 → AtB W1.heap.size A1 c1 data va ua W2 data → RdSpec 47 106 (.pointer (some ⟨W1.heap.size, 0, none⟩)) W1.heap.size W2.heap.size va ua (AtB W1.heap.size A1 c1 data va ua) →
      Calls Tryd.prog 25 #[.iface 47 (.pointer (some ⟨W1.heap.size, 0, none⟩))] W2 fun e w' => (n ≤ data.length → ∃ b, e = .returned (.tuple #[.pointer (some ⟨b, 0, none⟩), .nilIface]) ∧ IsPk w' W2.heap.size (fun _ => True) b (rdPk x) ∧ AtB W1.heap.size A1 c1 data va ua w' (data.drop n)) ∧
      (data.length < n → ∃ v, e = .returned (.tuple #[.pointer none, (.iface 104 (.pointer (some v)))]) ∧ (v = va ∨ v = ua)) ∧ Only (fun i => i = W1.heap.size) W2 w') := Lib.hid (fun W1 W2 A1 c1 h1 h2 h3 => rdPacket_any h3 x hd hkp hg hts W2 data m n h2 (Nat.le_refl _) hP hx hl)
  have HUN : Hid (∀ (b base : Nat) (w : World), IsPk w base (fun _ => True) b (rdPk x) → Calls Tryd.prog 26 #[.pointer (some ⟨b, 0, none⟩)] w (Un w (trOf (rdPk x)))) := Lib.hid (fun b base w hi => unpk_any (dp (rdPk x)) _ (Nat.le_refl _) (ok_rd x hg hts) b base _ w hi)
  have HGP := Lib.hid hgp
  have HGR := Lib.hid hgr
  have HNE : Hid (gp ≠ gr) := Lib.hid (by
    rintro rfl
    rw [hgp] at hgr
    injection hgr with hgr
    injection hgr with _ hgr
    exact absurd hgr (by decide))
  have HLT : Hid (gp < W.heap.size ∧ gr < W.heap.size) := Lib.hid ⟨blk_lt hgp, blk_lt hgr⟩
  obtain ⟨y, hy⟩ : ∃ y, y = trOf (rdPk x) := ⟨_, rfl⟩
  rw [← hy] at HUN ⊢
  clear hd hkp hg hts hE hA hP hx hl ha hgp hgr hy
  by_cases hn : n ≤ data.length
  · have HN := Lib.hid hn
    have HL := Lib.hid hll
    clear hn hll
    go_enter Tryd.func22, Tryd.ntmps22
    go_wp2_with (first
      | (go_at_call 24
         with_reducible refine HCL.out.mono ?_
         rintro e W1 ⟨v, rfl, hR1, hB1⟩
         have HB1 := Lib.hid hB1
         obtain ⟨A1, c1, hv, hA1, hW2⟩ := HNR.out W1 v hR1 hB1
         subst hv
         have HA1 := Lib.hid hA1
         have HW2 := Lib.hid hW2
         clear hR1 hB1 hW2 hA1)
      | (go_at_call 23
         with_reducible refine (newReader_any A1 data.length c1 W1).mono ?_
         rintro e W2 ⟨rfl, hw2⟩
         obtain ⟨hb2, hq2, hs2⟩ := HW2.out W2 hw2
         have HB2 := Lib.hid hb2
         have HQ2 := Lib.hid hq2
         have HS2 := Lib.hid hs2
         clear hw2 hb2 hq2 hs2)
      | (go_at_call 25
         with_reducible refine (HRP.out W1 W2 A1 c1 HB2.out HQ2.out HS2.out).mono ?_
         rintro e W3 ⟨h3, _, hO3⟩
         obtain ⟨b, rfl, hI3, hQ3⟩ := h3 HN.out
         have HI3 := Lib.hid hI3
         have HQ3 := Lib.hid hQ3
         have HO3 := Lib.hid hO3
         clear h3 hI3 hQ3 hO3)
      | (go_at_call 26
         with_reducible refine (HUN.out b _ W3 HI3.out).mono ?_
         rintro e W4 ⟨cs, rfl, hM, hB4⟩
         obtain ⟨v3, v4, rfl, r3, r4⟩ := k25_openM hM
         obtain ⟨A3, c3, h3⟩ := Kd.R_slice r3
         obtain ⟨A4, c4, h4⟩ := Kd.R_slice r4
         subst h3
         subst h4
         have HR3 := Lib.hid r3
         have HR4 := Lib.hid r4
         have HB4 := Lib.hid hB4
         clear r3 r4 hM hB4)
      | (go_at_call 27
         have HAT : ∃ i, AtRd W4 W1.heap.size A1 c1 i data ∧ data.drop n = data.drop i := by
           obtain ⟨i, h1, h2, h3⟩ := HQ3.out
           have h4 := HB2.out.size
           have h5 := HO3.out.size
           obtain ⟨pr, h6⟩ := h1.hb
           have h7 := blk_lt h6
           exact ⟨i, h1.keep (HB4.out.block _ h7) (fun a ha => HB4.out.block _ (by have := HA1.out a ha; omega)), h2⟩
         obtain ⟨i, hAt, hdi⟩ := HAT
         have hi : data.length - i = data.length - n := by
           have := congrArg List.length hdi
           rw [List.length_drop, List.length_drop] at this
           exact this.symm
         have hln := rdLen_any hAt
         rw [hi] at hln
         with_reducible refine hln.mono ?_
         rintro e W5 ⟨rfl, nd, hw5⟩
         have hB5 : Below W.heap.size W W5 := by
           have h1 := HB1.out
           have h2 := h1.trans (HB2.out.mono h1.size)
           have h3 := h2.trans (HO3.out.below h2.size (fun i hi => by rw [hi]; exact h1.size))
           have h4 := h3.trans (HB4.out.mono h3.size)
           rw [hw5]
           exact h4.trans (pw_below_drewN (Below.refl _ _) nd |>.mono h4.size)
         have hR35 := Kd.R_lower (Kd.R_drewN HR3.out nd) (Nat.le_trans (Nat.le_trans HB1.out.size HB2.out.size) HO3.out.size)
         have hR45 := Kd.R_lower (Kd.R_drewN HR4.out nd) (Nat.le_trans (Nat.le_trans HB1.out.size HB2.out.size) HO3.out.size)
         rw [← hw5] at hR35 hR45
         have HB5 := Lib.hid hB5
         have HR35 := Lib.hid hR35
         have HR45 := Lib.hid hR45
         have hgp5 := (hB5.block gp HLT.out.1).trans HGP.out
         have hgr5 := (hB5.block gr HLT.out.2).trans HGR.out
         have HGP5 := Lib.hid hgp5
         have HGR5 := Lib.hid hgr5
         have k0 : W5.cell? ⟨gp, 0, none⟩ = some (.int .i64 0) := blk_cell hgp5 0
         have k1 : W5.cell? ⟨gp, 1, none⟩ = some (.int .i64 0) := blk_cell hgp5 1
         have k2 : W5.cell? ⟨gp, 2, none⟩ = some (.bool false) := blk_cell hgp5 2
         have k3 : W5.cell? ⟨gp, 3, none⟩ = some (.slice none 0 0) := blk_cell hgp5 3
         have k4 : W5.cell? ⟨gp, 4, none⟩ = some (.slice none 0 0) := blk_cell hgp5 4
         have q0 : W5.cell? ⟨gr, 0, none⟩ = some (.int .i64 0) := blk_cell hgr5 0
         have kf0 := blk_frozen hgp5 0
         have kf1 := blk_frozen hgp5 1
         have kf2 := blk_frozen hgp5 2
         have kf3 := blk_frozen hgp5 3
         have kf4 := blk_frozen hgp5 4
         have qf0 := blk_frozen hgr5 0
         have hne1 := HNE.out
         have hne2 : ¬ gr = gp := fun h => hne1 h.symm
         clear hgp5 hgr5 hB5 hR35 hR45 hw5 hln hi hdi hAt))
    go_ret
    obtain ⟨h5, ho5⟩ := store5 (v0 := .int .i64 y.f0) (v1 := .int .i64 y.f1) (v2 := .bool y.f2) (v3 := .slice A3 y.f3.length c3) (v4 := .slice A4 y.f4.length c4) HGP5.out rfl
    refine ⟨fun _ => ⟨rfl, ⟨A3, c3, A4, c4, blk_far h5 (p := ⟨gr, 0, none⟩) hne1 _, ?_, ?_⟩, ?_⟩, fun h => absurd h (by have := HN.out; omega), ?_⟩
    · exact Kd.R_mono (Kd.R_far (Kd.R_mono (ok' := fun k => k ≠ gr) (Kd.R_move (Kd.R_bound HR35.out) (fun k hk => ho5.block k hk.2.2.1 (by have := hk.2.1; have := HLT.out; show ¬ k = gp; omega))) (fun k hk => by have := hk.2.1; have := HLT.out; omega)) (p := ⟨gr, 0, none⟩) (fun k hk => hk) _) (fun _ _ => trivial)
    · exact Kd.R_mono (Kd.R_far (Kd.R_mono (ok' := fun k => k ≠ gr) (Kd.R_move (Kd.R_bound HR45.out) (fun k hk => ho5.block k hk.2.2.1 (by have := hk.2.1; have := HLT.out; show ¬ k = gp; omega))) (fun k hk => by have := hk.2.1; have := HLT.out; omega)) (p := ⟨gr, 0, none⟩) (fun k hk => hk) _) (fun _ _ => trivial)
    · exact blk_set ((ho5.block gr (blk_lt HGR5.out) hne2).trans HGR5.out) 0 _
    · exact (((Only.refl (fun i => i = gp ∨ i = gr) W).trans (S' := fun i => W.heap.size ≤ i) ⟨HB5.out.os, HB5.out.tape, HB5.out.output, HB5.out.size, fun i _ h => HB5.out.block i (Nat.lt_of_not_le h)⟩ (fun i hi h => absurd h (Nat.not_le.2 hi))).trans ho5 (fun i _ h => .inl h)).setCell (a := ⟨gr, 0, none⟩) (fun _ => .inr rfl) _
  · have HN := Lib.hid hn
    clear hn hll HUN
    go_enter Tryd.func22, Tryd.ntmps22
    go_wp2_with (first
      | (go_at_call 24
         with_reducible refine HCL.out.mono ?_
         rintro e W1 ⟨v, rfl, hR1, hB1⟩
         have HB1 := Lib.hid hB1
         obtain ⟨A1, c1, hv, hA1, hW2⟩ := HNR.out W1 v hR1 hB1
         subst hv
         have HW2 := Lib.hid hW2
         clear hR1 hB1 hW2 hA1)
      | (go_at_call 23
         with_reducible refine (newReader_any A1 data.length c1 W1).mono ?_
         rintro e W2 ⟨rfl, hw2⟩
         obtain ⟨hb2, hq2, hs2⟩ := HW2.out W2 hw2
         have HB2 := Lib.hid hb2
         have HQ2 := Lib.hid hq2
         have HS2 := Lib.hid hs2
         clear hw2 hb2 hq2 hs2)
      | (go_at_call 25
         with_reducible refine (HRP.out W1 W2 A1 c1 HB2.out HQ2.out HS2.out).mono ?_
         rintro e W3 ⟨_, h3, hO3⟩
         obtain ⟨v, rfl, hv3⟩ := h3 (by have := HN.out; omega)
         have HO3 := Lib.hid hO3
         clear h3 hv3 hO3))
    go_ret
    have h1 := HB1.out
    have h2 := h1.trans (HB2.out.mono h1.size)
    have h3 := h2.trans (HO3.out.below h2.size (fun i hi => by rw [hi]; exact h1.size))
    exact ⟨fun h => absurd h HN.out, fun _ => ⟨rfl, (h3.block gp HLT.out.1).trans HGP.out, (h3.block gr HLT.out.2).trans HGR.out⟩, Only.of_below _ h3⟩
end Go.Proofs.YtejbpbdlolehnaaDoor.Ber
namespace Go.Proofs.YtejbpbdlolehnaaDoor.Ber
open Go.RowKit Go.Proofs.YtejbpbdlolehnaaDoorW.PrintWords Go.Proofs.YtejbpbdlolehnaaDoorW.PrintLast Go.Proofs.YtejbpbdlolehnaaDoor.Buf Go.Proofs.YtejbpbdlolehnaaDoor.Pk Go.Proofs.YtejbpbdlolehnaaDoor.Tree Go.Proofs.YtejbpbdlolehnaaDoor.Num Go.Proofs.YtejbpbdlolehnaaDoor.Ident Go.Proofs.YtejbpbdlolehnaaDoor.PFnEncode
set_option linter.unusedVariables false
set_option linter.unusedSimpArgs false

theorem results_cct {P : Program} {fn : Func} {p q u : Tmp} {ty ti : TypeId} (h : fn.results = #[.cell p ty, .cell q ti, .tmp u]) (tmps : Array Value) (w : World) (g g2 : Nat) (t : TypeId) (cs : Array Value) (v : Value) (fr : Nat × Nat) (d : TypeDesc)
    (hp : tmps.getD p undef = .pointer (some ⟨g, 0, none⟩)) (hg : w.heap[g]? = some (.cells cs t fr))
    (hu : P.underlying ty = some d) (hd : (match d with | .struct _ | .array _ _ => true | _ => false) = true) (hi : (P.info? ty).map (·.size) = some cs.size)
    (hq : tmps.getD q undef = .pointer (some ⟨g2, 0, none⟩)) (hl : (loadVar ti ⟨g2, 0, none⟩).run P w = .ok v w) :
    (results fn tmps).run P w = .ok (.tuple #[.agg cs, v, tmps.getD u undef]) w := by
  have hp' : tmps[p]?.getD undef = .pointer (some ⟨g, 0, none⟩) := by simpa using hp
  have hq' : tmps[q]?.getD undef = .pointer (some ⟨g2, 0, none⟩) := by simpa using hq
  simp [results, h, hp', hq', asAddr, run_loadVar_row w g t ty cs fr d hg hu hd hi, hl]
theorem load_int {w : World} {g : Nat} {v : Value} (hc : w.cell? ⟨g, 0, none⟩ = some v) : (loadVar 3 ⟨g, 0, none⟩).run Tryd.prog w = .ok v w := by
  simp [loadVar, run_underlying Tryd.underlying3, hc, go_sem]
/-- what Decode leaves -/
def DecRes (w : World) (len n : Nat) (y : S25) (e : Ending) (w' : World) : Prop :=
  (n ≤ len → ∃ A3 c3 A4 c4, e = .returned (.tuple #[.agg #[.int .i64 y.f0, .int .i64 y.f1, .bool y.f2, .slice A3 y.f3.length c3, .slice A4 y.f4.length c4], .int .i64 ((len - n : Nat) : Int), .bool true]) ∧ y.f3.length ≤ c3 ∧ B8.C w' A3 y.f3.length y.f3 ∧ y.f4.length ≤ c4 ∧ k25.C w' A4 y.f4.length y.f4) ∧
  (len < n → e = .returned (.tuple #[.agg #[.int .i64 0, .int .i64 0, .bool false, .slice none 0 0, .slice none 0 0], .int .i64 0, .bool false])) ∧ Below w.heap.size w w'
set_option maxHeartbeats 6400000 in
set_option maxRecDepth 100000 in
theorem decode_any (x : S29) (hd : dpx x ≤ 1000) (hkp : kp x) (hg : good x = true) (hts : tsize x ≤ 1000000) (va ua : Addr) (A : Option Addr) (cc : Nat) (data m : List Int) (n : Nat) (w : World) (hE : EofAt w va ua) (hA : B8.C w A data.length data) (hP : Par (data ++ m) x n) (hx : ∀ y ∈ data ++ m, 0 ≤ y ∧ y < 256) (hl : (data ++ m).length ≤ 1000000) :
    Calls Tryd.prog 11 #[.slice A data.length cc] w (DecRes w data.length n (trOf (rdPk x))) := by
  have hmf : ∀ (fn : Fn) (first cap : Array Value) (w : World), (Instr.makeFunc fn first cap).run Tryd.prog w = .ok (.func fn first cap) w := fun _ _ _ _ => rfl
  obtain ⟨W0, hW0⟩ : ∃ W0, W0 = ((w.alloc (.cells #[.slice A data.length cc] 22)).alloc (.cells #[.int .i64 0, .int .i64 0, .bool false, .slice none 0 0, .slice none 0 0] 25)).alloc (.cells #[.int .i64 0] 3) := ⟨_, rfl⟩
  have hs0 : W0.heap.size = w.heap.size + 1 + 1 + 1 := by rw [hW0]; simp
  have hb0 : Below w.heap.size w W0 := by rw [hW0]; exact below_alloc (below_alloc (below_alloc (Below.refl _ _) _) _) _
  have hr0 : W0.heap[w.heap.size]? = some (.cells #[.slice A data.length cc] 22 (0, 0)) := by rw [hW0]; exact blk_alloc (blk_alloc (blk_new _ _) _) _
  have hp0 : W0.heap[w.heap.size + 1]? = some (.cells #[.int .i64 0, .int .i64 0, .bool false, .slice none 0 0, .slice none 0 0] 25 (0, 0)) := by
    have := blk_alloc (blk_new (w.alloc (.cells #[.slice A data.length cc] 22)) (.cells #[.int .i64 0, .int .i64 0, .bool false, .slice none 0 0, .slice none 0 0] 25)) (.cells #[.int .i64 0] 3)
    have e : (w.alloc (.cells #[.slice A data.length cc] 22)).heap.size = w.heap.size + 1 := by simp
    rw [e, ← hW0] at this
    exact this
  have hq0 : W0.heap[w.heap.size + 1 + 1]? = some (.cells #[.int .i64 0] 3 (0, 0)) := by
    have := blk_new ((w.alloc (.cells #[.slice A data.length cc] 22)).alloc (.cells #[.int .i64 0, .int .i64 0, .bool false, .slice none 0 0, .slice none 0 0] 25)) (.cells #[.int .i64 0] 3)
    have e : ((w.alloc (.cells #[.slice A data.length cc] 22)).alloc (.cells #[.int .i64 0, .int .i64 0, .bool false, .slice none 0 0, .slice none 0 0] 25)).heap.size = w.heap.size + 1 + 1 := by simp
    rw [e, ← hW0] at this
    exact this
  have HCL : Hid (∀ W, W = W0.alloc (.cells #[.bool false] 4) → Calls Tryd.prog 22 #[.pointer (some ⟨w.heap.size, 0, none⟩), .pointer (some ⟨w.heap.size + 1, 0, none⟩), .pointer (some ⟨w.heap.size + 1 + 1, 0, none⟩)] W fun e w' =>
      ((n ≤ data.length → e = .returned (.bool true) ∧ InRes w' (w.heap.size + 1) (W0.heap.size + 1) (trOf (rdPk x)) ∧ w'.heap[w.heap.size + 1 + 1]? = some (.cells #[.int .i64 ((data.length - n : Nat) : Int)] 3 (0, 0))) ∧
      (data.length < n → e = .returned (.bool false) ∧ w'.heap[w.heap.size + 1]? = some (.cells #[.int .i64 0, .int .i64 0, .bool false, .slice none 0 0, .slice none 0 0] 25 (0, 0)) ∧ w'.heap[w.heap.size + 1 + 1]? = some (.cells #[.int .i64 0] 3 (0, 0)))) ∧ Below w.heap.size w w' ∧ w'.heap[W0.heap.size]? = some (.cells #[.bool false] 4 (0, 0))) := Lib.hid (by
    intro W hW
    have hbW : Below w.heap.size w W := by rw [hW]; exact below_alloc hb0 _
    have hsW : W.heap.size = W0.heap.size + 1 := by rw [hW]; simp
    have hEW : EofAt W va ua := hE.keep (S := fun _ => True) hE.lt hbW.block
    have hc := dec_closure x hd hkp hg hts va ua A cc w.heap.size (w.heap.size + 1) (w.heap.size + 1 + 1) data m n W hEW (Kd.C_below hA hbW) hP hx hl (by rw [hW]; exact blk_alloc hr0 _) (by rw [hW]; exact blk_alloc hp0 _) (by rw [hW]; exact blk_alloc hq0 _)
    rw [hsW] at hc
    refine hc.mono ?_
    rintro e w' ⟨h1, h2, ho⟩
    refine ⟨⟨h1, h2⟩, hbW.trans (ho.below hbW.size (fun i hi => by omega)), ?_⟩
    have hbl : W.heap[W0.heap.size]? = some (.cells #[.bool false] 4 (0, 0)) := by rw [hW]; exact blk_new _ _
    exact (ho.block _ (by omega) (by rintro (h | h) <;> omega)).trans hbl)
  obtain ⟨y, hy⟩ : ∃ y, y = trOf (rdPk x) := ⟨_, rfl⟩
  rw [← hy] at HCL ⊢
  have HS0 := Lib.hid hs0
  have HW0 := Lib.hid hW0
  clear hd hkp hg hts hE hA hP hx hl hb0 hr0 hp0 hq0 hs0 hW0 hy
  by_cases hn : n ≤ data.length
  · have HS := Lib.hid (safely_any #[.pointer (some ⟨w.heap.size, 0, none⟩), .pointer (some ⟨w.heap.size + 1, 0, none⟩), .pointer (some ⟨w.heap.size + 1 + 1, 0, none⟩)] true
      (fun w' => (InRes w' (w.heap.size + 1) (W0.heap.size + 1) y ∧ w'.heap[w.heap.size + 1 + 1]? = some (.cells #[.int .i64 ((data.length - n : Nat) : Int)] 3 (0, 0))) ∧ Below w.heap.size w w') W0 (by
        intro W hW
        refine (HCL.out W hW).mono ?_
        rintro e w' ⟨⟨h1, _⟩, hb, hf⟩
        obtain ⟨he, hi, hr⟩ := h1 hn
        exact ⟨he, ⟨⟨hi, hr⟩, hb⟩, hf⟩))
    have HN := Lib.hid hn
    obtain ⟨rt, hrt⟩ : ∃ rt : Int, rt = ((data.length - n : Nat) : Int) := ⟨_, rfl⟩
    rw [← hrt] at HS
    have HRT := Lib.hid hrt
    clear hn HCL hrt
    go_enter Tryd.func11, Tryd.ntmps11
    go_wp2_with (go_at_call 21
                 rw [← HW0.out]
                 with_reducible refine HS.out.mono ?_
                 rintro e w' ⟨rfl, W1, ⟨⟨⟨A3, c3, A4, c4, hg, r3, r4⟩, hr⟩, hb1⟩, rfl⟩
                 have hne : w.heap.size + 1 ≠ W0.heap.size := by have := HS0.out; omega
                 have hne2 : w.heap.size + 1 + 1 ≠ W0.heap.size := by have := HS0.out; omega
                 have hg2 := blk_far hg (p := ⟨W0.heap.size, 0, none⟩) hne (.bool true)
                 have hr2 := blk_far hr (p := ⟨W0.heap.size, 0, none⟩) hne2 (.bool true)
                 have r32 := Kd.R_far (Kd.R_mono (ok' := fun k => k ≠ W0.heap.size) (Kd.R_bound r3) (fun k hk => by have := hk.2.1; omega)) (p := ⟨W0.heap.size, 0, none⟩) (fun k hk => hk) (.bool true)
                 have r42 := Kd.R_far (Kd.R_mono (ok' := fun k => k ≠ W0.heap.size) (Kd.R_bound r4) (fun k hk => by have := hk.2.1; omega)) (p := ⟨W0.heap.size, 0, none⟩) (fun k hk => hk) (.bool true)
                 have hb2 : Below w.heap.size w (W1.setCell ⟨W0.heap.size, 0, none⟩ (.bool true)) := hb1.setCell (p := ⟨W0.heap.size, 0, none⟩) (by have := HS0.out; show w.heap.size ≤ W0.heap.size; omega) _
                 obtain ⟨W2, hW2⟩ : ∃ W2, W2 = W1.setCell ⟨W0.heap.size, 0, none⟩ (.bool true) := ⟨_, rfl⟩
                 rw [← hW2] at hg2 hr2 r32 r42 hb2 ⊢
                 have HG2 := Lib.hid hg2
                 have HR2 := Lib.hid hr2
                 have HR3 := Lib.hid r32
                 have HR4 := Lib.hid r42
                 have HB2 := Lib.hid hb2
                 have k0 : W2.cell? ⟨w.heap.size + 1, 0, none⟩ = some (.int .i64 y.f0) := blk_cell hg2 0
                 have k1 : W2.cell? ⟨w.heap.size + 1, 1, none⟩ = some (.int .i64 y.f1) := blk_cell hg2 1
                 have k2 : W2.cell? ⟨w.heap.size + 1, 2, none⟩ = some (.bool y.f2) := blk_cell hg2 2
                 have k3 : W2.cell? ⟨w.heap.size + 1, 3, none⟩ = some (.slice A3 y.f3.length c3) := blk_cell hg2 3
                 have k4 : W2.cell? ⟨w.heap.size + 1, 4, none⟩ = some (.slice A4 y.f4.length c4) := blk_cell hg2 4
                 have kf0 := blk_frozen hg2 0
                 have kf1 := blk_frozen hg2 1
                 have kf2 := blk_frozen hg2 2
                 have kf3 := blk_frozen hg2 3
                 have kf4 := blk_frozen hg2 4
                 have q0 : W2.cell? ⟨w.heap.size + 1 + 1, 0, none⟩ = some (.int .i64 rt) := blk_cell hr2 0
                 have qf0 := blk_frozen hr2 0
                 clear hg hr r3 r4 hb1 hg2 hr2 r32 r42 hb2 hW2 HS hne hne2)
    go_region
    obtain ⟨X5, hX5⟩ : ∃ X5, X5 = ((((W2.setCell ⟨w.heap.size + 1, 0, none⟩ (.int .i64 y.f0)).setCell ⟨w.heap.size + 1, 1, none⟩ (.int .i64 y.f1)).setCell ⟨w.heap.size + 1, 2, none⟩ (.bool y.f2)).setCell ⟨w.heap.size + 1, 3, none⟩ (.slice A3 y.f3.length c3)).setCell ⟨w.heap.size + 1, 4, none⟩ (.slice A4 y.f4.length c4) := ⟨_, rfl⟩
    obtain ⟨h5, ho5⟩ := store5 HG2.out hX5
    obtain ⟨X6, hX6⟩ : ∃ X6, X6 = (X5.setCell ⟨w.heap.size + 1 + 1, 0, none⟩ (.int .i64 rt)).drew := ⟨_, rfl⟩
    have h6 : X6.heap[w.heap.size + 1]? = some (.cells #[.int .i64 y.f0, .int .i64 y.f1, .bool y.f2, .slice A3 y.f3.length c3, .slice A4 y.f4.length c4] 25 (0, 0)) := by rw [hX6]; exact blk_far h5 (p := ⟨w.heap.size + 1 + 1, 0, none⟩) (by show w.heap.size + 1 ≠ w.heap.size + 1 + 1; omega) (.int .i64 rt)
    have h7 : X6.heap[w.heap.size + 1 + 1]? = some (.cells #[.int .i64 rt] 3 (0, 0)) := by rw [hX6]; exact blk_set ((ho5.block (w.heap.size + 1 + 1) (blk_lt HR2.out) (by show ¬ w.heap.size + 1 + 1 = w.heap.size + 1; omega)).trans HR2.out) 0 (.int .i64 rt)
    have hs := HS0.out
    have ho6 : ∀ k, W0.heap.size + 1 ≤ k → k < W2.heap.size → X6.heap[k]? = W2.heap[k]? := fun k h1 h2 => by
      rw [hX6]
      exact (Below.heap_setCell X5 ⟨w.heap.size + 1 + 1, 0, none⟩ _ k (by show k ≠ w.heap.size + 1 + 1; omega)).trans (ho5.block k h2 (by show ¬ k = w.heap.size + 1; omega))
    have q3 := Kd.R_move (Kd.R_bound HR3.out) (w1 := X6) (fun k hk => ho6 k hk.2.1 hk.2.2.1)
    have q4 := Kd.R_move (Kd.R_bound HR4.out) (w1 := X6) (fun k hk => ho6 k hk.2.1 hk.2.2.1)
    have hb6 : Below w.heap.size w X6 := by
      rw [hX6]
      exact ((HB2.out.trans (ho5.below HB2.out.size (fun i hi => by omega))).setCell (p := ⟨w.heap.size + 1 + 1, 0, none⟩) (by show w.heap.size ≤ w.heap.size + 1 + 1; omega) _).drew
    have h8 : X6.cell? ⟨w.heap.size + 1 + 1, 0, none⟩ = some (.int .i64 rt) := blk_cell h7 0
    rw [← hX5, ← hX6]
    clear hX5 hX6 h5 ho5 ho6 k0 k1 k2 k3 k4 kf0 kf1 kf2 kf3 kf4 q0 qf0 h7
    go_wp2
    try simp only [Exit.inBlock, Exit.then]
    refine bodyPost_ret (results_cct (p := 2) (q := 3) (u := 4) rfl _ X6 _ _ _ _ _ _ _ rfl h6 Tryd.underlying25 rfl size_ip rfl (load_int h8)) rfl ⟨fun _ => ⟨A3, c3, A4, c4, ?_, (Kd.R_reads' q3).2.1, (Kd.R_reads' q3).2.2, (Kd.R_reads' q4).2.1, (Kd.R_reads' q4).2.2⟩, fun h => absurd h (by have := HN.out; omega), hb6⟩
    rw [← HRT.out]
    rfl
  · have HS := Lib.hid (safely_any #[.pointer (some ⟨w.heap.size, 0, none⟩), .pointer (some ⟨w.heap.size + 1, 0, none⟩), .pointer (some ⟨w.heap.size + 1 + 1, 0, none⟩)] false
      (fun w' => (w'.heap[w.heap.size + 1]? = some (.cells #[.int .i64 0, .int .i64 0, .bool false, .slice none 0 0, .slice none 0 0] 25 (0, 0)) ∧ w'.heap[w.heap.size + 1 + 1]? = some (.cells #[.int .i64 0] 3 (0, 0))) ∧ Below w.heap.size w w') W0 (by
        intro W hW
        refine (HCL.out W hW).mono ?_
        rintro e w' ⟨⟨_, h1⟩, hb, hf⟩
        obtain ⟨he, hi, hr⟩ := h1 (by omega)
        exact ⟨he, ⟨⟨hi, hr⟩, hb⟩, hf⟩))
    have HN := Lib.hid hn
    clear hn HCL
    go_enter Tryd.func11, Tryd.ntmps11
    go_wp2_with (go_at_call 21
                 rw [← HW0.out]
                 with_reducible refine HS.out.mono ?_
                 rintro e w' ⟨rfl, W1, ⟨⟨hg, hr⟩, hb1⟩, rfl⟩
                 have hne : w.heap.size + 1 ≠ W0.heap.size := by have := HS0.out; omega
                 have hne2 : w.heap.size + 1 + 1 ≠ W0.heap.size := by have := HS0.out; omega
                 have hg2 := blk_far hg (p := ⟨W0.heap.size, 0, none⟩) hne (.bool false)
                 have hr2 := blk_far hr (p := ⟨W0.heap.size, 0, none⟩) hne2 (.bool false)
                 have hb2 : Below w.heap.size w (W1.setCell ⟨W0.heap.size, 0, none⟩ (.bool false)) := hb1.setCell (p := ⟨W0.heap.size, 0, none⟩) (by have := HS0.out; show w.heap.size ≤ W0.heap.size; omega) _
                 obtain ⟨W2, hW2⟩ : ∃ W2, W2 = W1.setCell ⟨W0.heap.size, 0, none⟩ (.bool false) := ⟨_, rfl⟩
                 rw [← hW2] at hg2 hr2 hb2 ⊢
                 have HG2 := Lib.hid hg2
                 have HR2 := Lib.hid hr2
                 have HB2 := Lib.hid hb2
                 have k0 : W2.cell? ⟨w.heap.size + 1, 0, none⟩ = some (.int .i64 0) := blk_cell hg2 0
                 have k1 : W2.cell? ⟨w.heap.size + 1, 1, none⟩ = some (.int .i64 0) := blk_cell hg2 1
                 have k2 : W2.cell? ⟨w.heap.size + 1, 2, none⟩ = some (.bool false) := blk_cell hg2 2
                 have k3 : W2.cell? ⟨w.heap.size + 1, 3, none⟩ = some (.slice none 0 0) := blk_cell hg2 3
                 have k4 : W2.cell? ⟨w.heap.size + 1, 4, none⟩ = some (.slice none 0 0) := blk_cell hg2 4
                 have kf0 := blk_frozen hg2 0
                 have kf1 := blk_frozen hg2 1
                 have kf2 := blk_frozen hg2 2
                 have kf3 := blk_frozen hg2 3
                 have kf4 := blk_frozen hg2 4
                 have q0 : W2.cell? ⟨w.heap.size + 1 + 1, 0, none⟩ = some (.int .i64 0) := blk_cell hr2 0
                 have qf0 := blk_frozen hr2 0
                 clear hg hr hb1 hg2 hr2 hb2 hW2 HS hne hne2)
    try simp only [Exit.inBlock, Exit.then]
    obtain ⟨h5, ho5⟩ := store5 (v0 := .int .i64 0) (v1 := .int .i64 0) (v2 := .bool false) (v3 := .slice none 0 0) (v4 := .slice none 0 0) HG2.out rfl
    have h6 := blk_far h5 (p := ⟨w.heap.size + 1 + 1, 0, none⟩) (by show w.heap.size + 1 ≠ w.heap.size + 1 + 1; omega) (.int .i64 0)
    have h7 := blk_set ((ho5.block (w.heap.size + 1 + 1) (blk_lt HR2.out) (by show ¬ w.heap.size + 1 + 1 = w.heap.size + 1; omega)).trans HR2.out) 0 (.int .i64 0)
    refine bodyPost_ret (results_cct (p := 2) (q := 3) (u := 4) rfl _ _ _ _ _ _ _ _ _ rfl h6 Tryd.underlying25 rfl size_ip rfl (load_int (blk_cell h7 0))) rfl ⟨fun h => absurd h HN.out, fun _ => rfl, ?_⟩
    exact (HB2.out.trans (ho5.below HB2.out.size (fun i hi => by omega))).setCell (p := ⟨w.heap.size + 1 + 1, 0, none⟩) (by show w.heap.size ≤ w.heap.size + 1 + 1; omega) _
end Go.Proofs.YtejbpbdlolehnaaDoor.Ber
namespace Go.Proofs.YtejbpbdlolehnaaDoor.Open
open Go.RowKit Go.Proofs.YtejbpbdlolehnaaDoorW.PrintWords
set_option linter.unusedVariables false
set_option linter.unusedSimpArgs false

section
variable {H : Type} (enc : TypeId × Value → H) (P : Program) (W : World)

/-- Whatever of type t reads as a datum within so much fuel is of kind k. -/
def Opens {α : Type} (N : Nat) (t : TypeId) (k : Kd α) (q : α → Prop) : Prop :=
  ∀ fuel, fuel ≤ N → ∀ (cs : List Value) (d : DataW H) (p : List MemPlace), DataW.trod enc P W 0 (fun _ => true) true fuel t cs = some (d, p) → (∀ x ∈ DataW.weights P t d, x ≤ reachBytes) → ∃ x, k.K W x cs ∧ q x
end
section
variable {H : Type} {enc : TypeId × Value → H} {P : Program} {W : World}

theorem Opens.down {α : Type} {N N' : Nat} {t : TypeId} {k : Kd α} {q : α → Prop} (h : Opens enc P W N t k q) (hN : N' ≤ N) : Opens enc P W N' t k q := fun fuel hf => h fuel (Nat.le_trans hf hN)
theorem Opens.imp {α : Type} {N : Nat} {t : TypeId} {k : Kd α} {q q' : α → Prop} (h : Opens enc P W N t k q) (hq : ∀ x, q x → q' x) : Opens enc P W N t k q' := fun fuel hf cs d p ht hw => by
  obtain ⟨x, hx, hqx⟩ := h fuel hf cs d p ht hw
  exact ⟨x, hx, hq x hqx⟩
theorem opens_int (N : Nat) {t : TypeId} {k : IntKind} (hu : P.underlying t = some (.int k)) : Opens enc P W N t (Kd.int k) (fun x => (Lit.int k x).wf = true) := by
  intro fuel _ cs d p ht _
  cases fuel with
  | zero => simp [DataW.trod] at ht
  | succ fuel =>
    unfold DataW.trod at ht
    rw [hu] at ht
    split at ht <;> try (simp_all; done)
    rename_i k' k'' n h1
    simp only [Option.some.injEq, TypeDesc.int.injEq] at h1
    subst h1
    split at ht
    · rename_i h2
      obtain ⟨rfl, h3⟩ := h2
      exact ⟨n, rfl, h3⟩
    · cases ht

theorem weightsAll_mem {e : TypeId} : ∀ {ds : List (DataW H)} {d : DataW H} {x : Nat}, d ∈ ds → x ∈ DataW.weights P e d → x ∈ DataW.weightsAll P e ds
  | d0 :: r, d, x, hd, hx => by
    rw [DataW.weightsAll, List.mem_append]
    rcases List.mem_cons.1 hd with rfl | hd
    · exact .inl hx
    · exact .inr (weightsAll_mem hd hx)

theorem Opens.slice {α : Type} {N : Nat} {t e : TypeId} {k : Kd α} {q : α → Prop} (h : Opens enc P W N e k q) (hu : P.underlying t = some (.slice e)) (hsz : k.sz = P.cellsOf e) (hb : 1 ≤ P.bytesOf e) :
    Opens enc P W (N + 1) t (Kd.slice e k) (fun xs => xs.length ≤ reachBytes ∧ ∀ x ∈ xs, q x) := by
  intro fuel hf cs d p ht hw
  cases fuel with
  | zero => simp [DataW.trod] at ht
  | succ fuel =>
    unfold DataW.trod at ht
    rw [hu] at ht
    split at ht <;> try (simp_all; done)
    · exact ⟨[], ⟨none, 0, rfl, Nat.le_refl _, by simp, by simp, fun h0 => absurd h0 (by simp)⟩, Nat.zero_le _, fun x hx => by cases hx⟩
    · rename_i e' a len cap h1
      simp only [Option.some.injEq, TypeDesc.slice.injEq] at h1
      subst h1
      dsimp only at ht
      split at ht
      case isFalse => cases ht
      rename_i h2
      rw [Option.bind_eq_some_iff] at ht
      obtain ⟨elems, he, ht⟩ := ht
      rw [Option.map_eq_some_iff] at ht
      obtain ⟨rest, hr, ht⟩ := ht
      simp only [Prod.mk.injEq] at ht
      obtain ⟨rfl, rfl⟩ := ht
      have hlen : elems.length = len := by simpa using mapM_some_length he
      have hall : ∀ i, i < len → ∃ x c, c.length = k.sz ∧ k.K W x c ∧ q x ∧ ∀ j u, c[j]? = some u → W.cell? (a.add (i * k.sz + j)) = some u := by
        intro i hi
        have hg := mapM_some_get he i i (by simp [hi])
        obtain ⟨y, hy⟩ : ∃ y, elems[i]? = some y := ⟨elems[i]'(by omega), by simp [hlen, hi]⟩
        rw [hy, Option.bind_eq_some_iff] at hg
        obtain ⟨c, hc, hd⟩ := hg
        obtain ⟨_, hcl, hcc⟩ := World.cells?_some hc
        obtain ⟨yd, yp⟩ := y
        have hwy : ∀ x ∈ DataW.weights P e yd, x ≤ reachBytes := fun x hx => hw x (by
          rw [DataW.weights, hu]
          refine List.mem_cons_of_mem _ (List.mem_append.2 (.inl (weightsAll_mem (List.mem_map.2 ⟨(yd, yp), List.mem_of_getElem? hy, rfl⟩) hx))))
        obtain ⟨x, hx, hq⟩ := h fuel (by omega) c yd yp hd hwy
        refine ⟨x, c, by rw [hcl, hsz], hx, hq, fun j u hu2 => ?_⟩
        have hj : j < P.cellsOf e := by
          rw [← hcl]
          exact (List.getElem?_eq_some_iff.1 hu2).1
        rw [hsz, ← add_add]
        rw [hcc j hj]
        exact hu2
      have hL : ∃ xs : List α, xs.length = len ∧ (∀ x ∈ xs, q x) ∧ ∀ i x, xs[i]? = some x → ∃ c, c.length = k.sz ∧ k.K W x c ∧ ∀ j u, c[j]? = some u → W.cell? (a.add (i * k.sz + j)) = some u := by
        have build : ∀ m, m ≤ len → ∃ xs : List α, xs.length = m ∧ (∀ x ∈ xs, q x) ∧ ∀ i x, xs[i]? = some x → ∃ c, c.length = k.sz ∧ k.K W x c ∧ ∀ j u, c[j]? = some u → W.cell? (a.add (i * k.sz + j)) = some u := by
          intro m
          induction m with
          | zero => intro _; exact ⟨[], rfl, (fun x hx => by cases hx), (fun i x hx => by simp at hx)⟩
          | succ m ih =>
            intro hm
            obtain ⟨xs, h1, h2, h3⟩ := ih (by omega)
            obtain ⟨x, c, hc, hx, hq, hcell⟩ := hall m (by omega)
            refine ⟨xs ++ [x], by simp [h1], ?_, ?_⟩
            · intro y hy
              rcases List.mem_append.1 hy with hy | hy
              · exact h2 y hy
              · rw [List.mem_singleton.1 hy]; exact hq
            · intro i y hy
              by_cases hi : i < xs.length
              · rw [List.getElem?_append_left hi] at hy
                exact h3 i y hy
              · rw [List.getElem?_append_right (by omega)] at hy
                have : i = m := by
                  have := (List.getElem?_eq_some_iff.1 hy).1
                  simp at this
                  omega
                subst this
                rw [h1, Nat.sub_self] at hy
                simp at hy
                subst hy
                exact ⟨c, hc, hx, hcell⟩
        exact build len (Nat.le_refl _)
      obtain ⟨xs, h3, h4, h5⟩ := hL
      have hwl := hw ((elems.length + rest.length) * P.bytesOf e) (by
        rw [DataW.weights, hu]
        simp)
      have hle : xs.length ≤ reachBytes := by
        rw [h3, ← hlen]
        refine Nat.le_trans ?_ hwl
        refine Nat.le_trans (Nat.le_add_right _ rest.length) ?_
        exact Nat.le_mul_of_pos_right _ hb
      have hr63 : reachBytes ≤ 9223372036854775807 := by decide
      exact ⟨xs, ⟨some a, cap, by rw [h3], by rw [h3]; exact h2.2.1, rfl, Nat.le_trans hle hr63, fun _ => ⟨a, rfl, h5⟩⟩, hle, h4⟩

end
end Go.Proofs.YtejbpbdlolehnaaDoor.Open
