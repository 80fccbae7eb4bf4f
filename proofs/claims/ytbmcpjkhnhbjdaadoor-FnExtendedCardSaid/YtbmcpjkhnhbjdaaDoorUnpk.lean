/- impl.packet: a packet of the call's own is read as data, in new memory. · impl.packet at packets with packets in them. -/
import Derived.Test.YtbmcpjkhnhbjdaaDoorEncStr
import Derived.BigRegion
import Derived.Deep.RegionLaw
import Derived.Deep.DrawnRows
import Derived.Deep.RegionWith
namespace Go.Proofs.YtbmcpjkhnhbjdaaDoor.Ber
open Go.RowKit Go.Proofs.YtbmcpjkhnhbjdaaDoorW.PrintWords Go.Proofs.YtbmcpjkhnhbjdaaDoor.Buf Go.Proofs.YtbmcpjkhnhbjdaaDoor.Pk Go.Proofs.YtbmcpjkhnhbjdaaDoor.Num Go.Proofs.YtbmcpjkhnhbjdaaDoor.Ident Go.Proofs.YtbmcpjkhnhbjdaaDoor.Tree Go.Proofs.YtbmcpjkhnhbjdaaDoor.PFnEncode
set_option linter.unusedVariables false
set_option linter.unusedSimpArgs false

/-- what impl.packet leaves -/
def Un (w : World) (x : S27) (e : Ending) (w' : World) : Prop :=
  ∃ c, e = .returned (.agg c.toArray) ∧ k27.M w' w.heap.size (fun _ => True) x c ∧ Below w.heap.size w w'

/-- the result's first cells -/
def zero5 : Obj := .cells #[.int .i64 0, .int .i64 0, .bool false, .slice none 0 0, .slice none 0 0] 27

theorem results_u {P : Program} {fn : Func} {p : Tmp} {ty : TypeId} (h : fn.results = #[.cell p ty]) (tmps : Array Value) (w : World) (g : Nat) (t : TypeId) (cs : Array Value) (fr : Nat × Nat) (d : TypeDesc)
    (hp : tmps.getD p undef = .pointer (some ⟨g, 0, none⟩)) (hg : w.heap[g]? = some (.cells cs t fr))
    (hu : P.underlying ty = some d) (hd : (match d with | .struct _ | .array _ _ => true | _ => false) = true) (hi : (P.info? ty).map (·.size) = some cs.size) :
    (results fn tmps).run P w = .ok (.agg cs) w := by
  have hp' : tmps[p]?.getD undef = .pointer (some ⟨g, 0, none⟩) := by simpa using hp
  simp [results, h, hp', asAddr, run_loadVar_row w g t ty cs fr d hg hu hd hi]
theorem info_ip : (Tryd.prog.info? 27).map (fun i => (i.zero, i.size, i.bytes)) = some (some (.agg #[.int .i64 0, .int .i64 0, .bool false, .slice none 0 0, .slice none 0 0]), 5, 72) := by kernel_rfl
theorem size_ip : (Tryd.prog.info? 27).map (·.size) = some 5 := by kernel_rfl

/-- bytes.Clone of a row that is read: a row of the call's own. -/
theorem clone_any (xs : List Int) (A : Option Addr) (c : Nat) (w : World) (h : B8.C w A xs.length xs) (hl : xs.length ≤ 140737488355328) :
    Calls Tryd.prog 97 #[.slice A xs.length c] w fun e w' => ∃ v, e = .returned v ∧ B8.R 5 w' w.heap.size (fun _ => True) v xs ∧ Below w.heap.size w w' := by
  rcases A with _ | a
  · have h0 : xs = [] := by
      rcases Nat.eq_zero_or_pos xs.length with h1 | h1
      · exact List.eq_nil_of_length_eq_zero h1
      · obtain ⟨a, ha, _⟩ := Kd.at_int h 0 (by omega) (by omega)
        cases ha
    subst h0
    refine (Tryd.bytes_Clone_nil _ c w).mono ?_
    rintro e w' ⟨rfl, rfl⟩
    exact ⟨_, rfl, Kd.R_nil _ _ _ _ _, Below.refl _ _⟩
  · have hc : ∀ i, i < xs.length → w.cell? (a.add i) = some (.int .u8 (xs.getD i 0)) := by
      intro i hi
      obtain ⟨a', hA', hc'⟩ := Kd.at_int h (i : Int) (by omega) (by omega)
      injection hA' with hA'
      subst hA'
      rw [Int.toNat_natCast] at hc'
      rw [hc']
      rfl
    refine (Tryd.bytes_Clone_at a xs.length c xs w rfl hl hc).mono ?_
    rintro e w' ⟨v', rfl, ho, _, hb⟩
    exact ⟨_, rfl, own_int ho (fun _ _ => trivial), hb⟩

/-- the end: out's cells are laid into the result -/
theorem unpk_end {w W0 W3 : World} {x : S27} {v3 v4 u : Value} {z0 z1 z2 z3 z4 : Value} (hb : Below w.heap.size w W0) (hres : W0.heap[w.heap.size]? = some (.cells #[z0, z1, z2, z3, z4] 27 (0, 0)))
    (h3 : B8.R 5 W0 w.heap.size (fun k => k ≠ w.heap.size ∧ k ≠ w.heap.size + 1) v3 x.f3) (h4 : k27.R 27 W0 w.heap.size (fun k => k ≠ w.heap.size ∧ k ≠ w.heap.size + 1) v4 x.f4)
    (hW3 : W3 = ((((((W0.setCell ⟨w.heap.size + 1, 3, none⟩ u).setCell ⟨w.heap.size, 0, none⟩ (.int .i64 x.f0)).setCell ⟨w.heap.size, 1, none⟩ (.int .i64 x.f1)).setCell ⟨w.heap.size, 2, none⟩ (.bool x.f2)).setCell ⟨w.heap.size, 3, none⟩ v3).setCell ⟨w.heap.size, 4, none⟩ v4)) :
    W3.heap[w.heap.size]? = some (.cells #[.int .i64 x.f0, .int .i64 x.f1, .bool x.f2, v3, v4] 27 (0, 0)) ∧ Un w x (.returned (.agg #[.int .i64 x.f0, .int .i64 x.f1, .bool x.f2, v3, v4])) W3 := by
  have hres' : (W0.setCell ⟨w.heap.size + 1, 3, none⟩ u).heap[w.heap.size]? = some (.cells #[z0, z1, z2, z3, z4] 27 (0, 0)) := blk_far hres (p := ⟨w.heap.size + 1, 3, none⟩) (by show w.heap.size ≠ w.heap.size + 1; omega) _
  have h5 := blk_set (blk_set (blk_set (blk_set (blk_set hres' 0 (.int .i64 x.f0)) 1 (.int .i64 x.f1)) 2 (.bool x.f2)) 3 v3) 4 v4
  rw [← hW3] at h5
  refine ⟨h5, _, rfl, k27_mkM W3 w.heap.size _ x (v3 := v3) ?_ (v4 := v4) ?_, ?_⟩
  · rw [hW3]
    exact Kd.R_mono (Kd.R_far (Kd.R_far (Kd.R_far (Kd.R_far (Kd.R_far (Kd.R_far h3 (p := ⟨w.heap.size + 1, 3, none⟩) (fun k hk => hk.2) _) (p := ⟨w.heap.size, 0, none⟩) (fun k hk => hk.1) _) (p := ⟨w.heap.size, 1, none⟩) (fun k hk => hk.1) _) (p := ⟨w.heap.size, 2, none⟩) (fun k hk => hk.1) _) (p := ⟨w.heap.size, 3, none⟩) (fun k hk => hk.1) _) (p := ⟨w.heap.size, 4, none⟩) (fun k hk => hk.1) _) (fun _ _ => trivial)
  · rw [hW3]
    exact Kd.R_mono (Kd.R_far (Kd.R_far (Kd.R_far (Kd.R_far (Kd.R_far (Kd.R_far h4 (p := ⟨w.heap.size + 1, 3, none⟩) (fun k hk => hk.2) _) (p := ⟨w.heap.size, 0, none⟩) (fun k hk => hk.1) _) (p := ⟨w.heap.size, 1, none⟩) (fun k hk => hk.1) _) (p := ⟨w.heap.size, 2, none⟩) (fun k hk => hk.1) _) (p := ⟨w.heap.size, 3, none⟩) (fun k hk => hk.1) _) (p := ⟨w.heap.size, 4, none⟩) (fun k hk => hk.1) _) (fun _ _ => trivial)
  · rw [hW3]
    have hn : ∀ i, w.heap.size ≤ (⟨w.heap.size, i, none⟩ : Addr).block := fun i => Nat.le_refl _
    exact (((((hb.setCell (p := ⟨w.heap.size + 1, 3, none⟩) (Nat.le_succ _) _).setCell (p := ⟨w.heap.size, 0, none⟩) (hn 0) _).setCell (p := ⟨w.heap.size, 1, none⟩) (hn 1) _).setCell (p := ⟨w.heap.size, 2, none⟩) (hn 2) _).setCell (p := ⟨w.heap.size, 3, none⟩) (hn 3) _).setCell (p := ⟨w.heap.size, 4, none⟩) (hn 4) _

set_option maxHeartbeats 3200000 in
set_option maxRecDepth 100000 in
theorem unpk_prim (cls tag : Int) (val : Value) (bv data : List Int) (kids : List Pk) (desc : ByteArray) (h0 : 0 ≤ cls) (h1 : cls ≤ 255) (h2 : 0 ≤ tag) (h3 : tag < 268435456) (h4 : data.length < 1099511627776) (b base : Nat) (ok : Nat → Prop) (w : World) (hI : IsPk w base ok b ⟨cls, 0, tag, val, bv, data, kids, desc⟩) :
    Calls Tryd.prog 82 #[.pointer (some ⟨b, 0, none⟩)] w (Un w ⟨cls / 64, tag, false, data, []⟩) := by
    obtain ⟨db, v, bvv, cv, P⟩ := parts_of hI.bound
    obtain ⟨Z, hZ⟩ : ∃ Z : Obj, Z = (Obj.cells #[.int .i64 0, .int .i64 0, .bool false, .slice none 0 0, .slice none 0 0] 27) := ⟨_, rfl⟩
    have hb0 : Below w.heap.size w (w.alloc Z) := below_alloc (Below.refl _ _) _
    have P0 := P.below hb0
    have c0 : (w.alloc Z).cell? ⟨b, 0, none⟩ = some (.int .u8 cls) := P0.cell 0
    have c1 : (w.alloc Z).cell? ⟨b, 1, none⟩ = some (.int .u8 0) := P0.cell 1
    have c2 : (w.alloc Z).cell? ⟨b, 2, none⟩ = some (.int .u64 tag) := P0.cell 2
    have hb0' : Below w.heap.size w ((w.alloc Z).alloc Z) := below_alloc hb0 _
    have P0' := P.below hb0'
    have d0 : ((w.alloc Z).alloc Z).cell? ⟨b, 0, none⟩ = some (.int .u8 cls) := P0'.cell 0
    have d1 : ((w.alloc Z).alloc Z).cell? ⟨b, 1, none⟩ = some (.int .u8 0) := P0'.cell 1
    have d2 : ((w.alloc Z).alloc Z).cell? ⟨b, 2, none⟩ = some (.int .u64 tag) := P0'.cell 2
    have e1 : IntKind.i64.wrap cls = cls := by rw [IntKind.wrap_i64]; omega
    have e2 : IntKind.i64.wrap tag = tag := by rw [IntKind.wrap_i64]; omega
    have e3 : IntKind.i64.wrap (cls / 64) = cls / 64 := by rw [IntKind.wrap_i64]; omega
    have e4 : wrap64 cls = cls := by unfold wrap64; omega
    have e5 : wrap64 tag = tag := by unfold wrap64; omega
    have hW1 : ∀ W, W = ((w.alloc Z).alloc (.cells #[.int .i64 (cls / 64), .int .i64 tag, .bool false, .slice none 0 0, .slice none 0 0] 27)).drew → Below w.heap.size w W ∧ W.heap[w.heap.size]? = some (.cells #[.int .i64 0, .int .i64 0, .bool false, .slice none 0 0, .slice none 0 0] 27 (0, 0)) ∧
        W.heap[w.heap.size + 1]? = some (.cells #[.int .i64 (cls / 64), .int .i64 tag, .bool false, .slice none 0 0, .slice none 0 0] 27 (0, 0)) := by
      rintro W rfl
      refine ⟨(below_alloc hb0 _).drew, ?_, ?_⟩
      · show ((w.alloc Z).alloc _).heap[w.heap.size]? = _
        have := blk_alloc (blk_new w (.cells #[.int .i64 0, .int .i64 0, .bool false, .slice none 0 0, .slice none 0 0] 27)) (.cells #[.int .i64 (cls / 64), .int .i64 tag, .bool false, .slice none 0 0, .slice none 0 0] 27)
        rw [hZ]
        exact this
      · have := blk_new (w.alloc Z) (.cells #[.int .i64 (cls / 64), .int .i64 tag, .bool false, .slice none 0 0, .slice none 0 0] 27)
        have e : (w.alloc Z).heap.size = w.heap.size + 1 := by simp
        rw [e] at this
        exact this
    subst hZ
    have HP := Lib.hid P
    have HW1 := Lib.hid hW1
    clear P P0 P0' hI hb0 hb0' hW1
    go_enter Tryd.func82, Tryd.ntmps82
    go_wp2
    go_region
    clear c0 c1 c2 d0 d1 d2
    obtain ⟨W1, hW⟩ : ∃ W1, W1 = ((w.alloc (.cells #[.int .i64 0, .int .i64 0, .bool false, .slice none 0 0, .slice none 0 0] 27)).alloc (.cells #[.int .i64 (cls / 64), .int .i64 tag, .bool false, .slice none 0 0, .slice none 0 0] 27)).drew := ⟨_, rfl⟩
    obtain ⟨hB1, hr1, ho1⟩ := HW1.out W1 hW
    rw [← hW]
    clear hW
    have P1 := HP.out.below hB1
    have k2 : W1.cell? ⟨w.heap.size + 1, 2, none⟩ = some (.bool false) := blk_cell ho1 2
    have k5 : W1.cell? ⟨b, 5, none⟩ = some (.pointer (some ⟨db, 0, none⟩)) := P1.cell 5
    have HBY := Lib.hid (Tryd.Buffer_Bytes 0 db (nums .u8 data) W1 P1.buf.shelf)
    have HB1 := Lib.hid hB1
    have HR1 := Lib.hid hr1
    have HO1 := Lib.hid ho1
    clear P1 hB1 hr1 ho1 HW1
    go_wp2_with (first
      | (go_at_call 104
         with_reducible refine HBY.out.mono ?_
         rintro e W2 ⟨v2, rfl, hv2, n2, hW2⟩
         rw [nums_length] at hv2
         obtain ⟨A2, d2, rfl, hl2, hc2, _⟩ := own_row_parts hv2
         have hB2 : Below W1.heap.size W1 W2 := hW2 ▸ pw_below_drewN (Below.refl _ W1) n2
         have HC2 := Lib.hid (clone_any data A2 d2 W2 hc2 (by omega))
         have HR2 := Lib.hid (blk_below HR1.out hB2)
         have HO2 := Lib.hid (blk_below HO1.out hB2)
         have HB2 := Lib.hid (HB1.out.trans (hB2.mono HB1.out.size))
         clear hv2 hW2 hl2 hc2 hB2 HBY HR1 HO1 k2 k5 HB1)
      | (go_at_call 97
         with_reducible refine HC2.out.mono ?_
         rintro e W3 ⟨v3, rfl, hv3, hB3⟩
         obtain ⟨A3, d3, hv3e⟩ := Kd.R_slice hv3
         subst hv3e
         have hn2 : w.heap.size + 1 < W2.heap.size := blk_lt HO2.out
         have HR3 := Lib.hid (blk_below HR2.out hB3)
         have HO3 := Lib.hid (blk_below HO2.out hB3)
         have HB3 := Lib.hid (HB2.out.trans (hB3.mono HB2.out.size))
         have k0 : W3.cell? ⟨w.heap.size + 1, 0, none⟩ = some (.int .i64 (cls / 64)) := blk_cell HO3.out 0
         have k1 : W3.cell? ⟨w.heap.size + 1, 1, none⟩ = some (.int .i64 tag) := blk_cell HO3.out 1
         have k2 : W3.cell? ⟨w.heap.size + 1, 2, none⟩ = some (.bool false) := blk_cell HO3.out 2
         have k3 : W3.cell? ⟨w.heap.size + 1, 3, none⟩ = some (.slice none 0 0) := blk_cell HO3.out 3
         have k4 : W3.cell? ⟨w.heap.size + 1, 4, none⟩ = some (.slice none 0 0) := blk_cell HO3.out 4
         have kf3 := blk_frozen HO3.out 3
         have r0 : W3.cell? ⟨w.heap.size, 0, none⟩ = some (.int .i64 0) := blk_cell HR3.out 0
         have r1 : W3.cell? ⟨w.heap.size, 1, none⟩ = some (.int .i64 0) := blk_cell HR3.out 1
         have r2 : W3.cell? ⟨w.heap.size, 2, none⟩ = some (.bool false) := blk_cell HR3.out 2
         have r3 : W3.cell? ⟨w.heap.size, 3, none⟩ = some (.slice none 0 0) := blk_cell HR3.out 3
         have r4 : W3.cell? ⟨w.heap.size, 4, none⟩ = some (.slice none 0 0) := blk_cell HR3.out 4
         have rf0 := blk_frozen HR3.out 0
         have rf1 := blk_frozen HR3.out 1
         have rf2 := blk_frozen HR3.out 2
         have rf3 := blk_frozen HR3.out 3
         have rf4 := blk_frozen HR3.out 4
         have HV3 : Hid (B8.R 5 W3 w.heap.size (fun k => k ≠ w.heap.size ∧ k ≠ w.heap.size + 1) (.slice A3 data.length d3) data) := Lib.hid (Kd.R_lower (Kd.R_mono (Kd.R_bound hv3) (fun k hk => by have := hk.2.1; omega)) (by omega))
         clear hv3 hB3 HR2 HO2 HC2))
    try simp only [Exit.inBlock, Exit.then]
    obtain ⟨h5, hend⟩ := unpk_end (x := ⟨cls / 64, tag, false, data, []⟩) (v3 := .slice A3 data.length d3) (v4 := .slice none 0 0) HB3.out HR3.out HV3.out (Kd.R_nil _ _ _ _ _) rfl
    exact bodyPost_ret (results_u rfl _ _ _ _ _ _ _ rfl h5 Tryd.underlying27 rfl size_ip) rfl hend
end Go.Proofs.YtbmcpjkhnhbjdaaDoor.Ber

namespace Go.Proofs.YtbmcpjkhnhbjdaaDoor.Ber
open Go.RowKit Go.Proofs.YtbmcpjkhnhbjdaaDoorW.PrintWords Go.Proofs.YtbmcpjkhnhbjdaaDoor.Buf Go.Proofs.YtbmcpjkhnhbjdaaDoor.Pk Go.Proofs.YtbmcpjkhnhbjdaaDoor.Num Go.Proofs.YtbmcpjkhnhbjdaaDoor.Ident Go.Proofs.YtbmcpjkhnhbjdaaDoor.Tree Go.Proofs.YtbmcpjkhnhbjdaaDoor.PFnEncode
set_option linter.unusedVariables false
set_option linter.unusedSimpArgs false

/-- what stands at the loop's head -/
structure UInv (w W : World) (a b : Int) (v : Value) (acc : List S27) : Prop where
  bel : Below w.heap.size w W
  res : W.heap[w.heap.size]? = some (.cells #[.int .i64 0, .int .i64 0, .bool false, .slice none 0 0, .slice none 0 0] 27 (0, 0))
  out : W.heap[w.heap.size + 1]? = some (.cells #[.int .i64 a, .int .i64 b, .bool true, .slice none 0 0, v] 27 (0, 0))
  row : k27.R 27 W w.heap.size (fun k => k ≠ w.heap.size ∧ k ≠ w.heap.size + 1) v acc

section
variable {w W W' : World} {a b : Int} {v : Value} {acc : List S27}
theorem UInv.step (I : UInv w W a b v acc) (hb : Below W.heap.size W W') : UInv w W' a b v acc :=
  ⟨I.bel.trans (hb.mono I.bel.size), blk_below I.res hb, blk_below I.out hb, Kd.R_below I.row hb⟩
theorem UInv.read (I : UInv w W a b v acc) {x : S27} {e : Ending} (h : Un W x e W') :
    ∃ c, e = .returned (.agg c.toArray) ∧ UInv w W' a b v acc ∧ k27.M W' w.heap.size (fun k => W.heap.size ≤ k) x c := by
  obtain ⟨c, he, hM, hb⟩ := h
  exact ⟨c, he, I.step hb, k27.M_lower I.bel.size (k27.M_mono (fun k hk => hk.2.1) (k27.M_bound hM))⟩
theorem UInv.vlt (I : UInv w W a b v acc) : ∀ k, v.ownBlock = some k → k < W.heap.size := fun k hk => own_lt I.row.2.choose_spec.1 k hk
theorem UInv.okp (I : UInv w W a b v acc) : ∀ k, W.heap.size ≤ k → (k ≠ w.heap.size ∧ k ≠ w.heap.size + 1) ∧ some k ≠ v.ownBlock := fun k hk => by
  have hl1 := blk_lt I.res
  have hl2 := blk_lt I.out
  refine ⟨⟨by omega, by omega⟩, fun e => ?_⟩
  have := I.vlt k e.symm
  omega
theorem UInv.fresh (I : UInv w W a b v acc) : ∀ k, W.heap.size ≤ k → k ≠ w.heap.size ∧ k ≠ w.heap.size + 1 := fun k hk => by
  have hl1 := blk_lt I.res
  have hl2 := blk_lt I.out
  exact ⟨by omega, by omega⟩
theorem UInv.ne (I : UInv w W a b v acc) : some (w.heap.size + 1) ≠ v.ownBlock := fun e => (I.row.1 _ e.symm).2 rfl
theorem UInv.app (I : UInv w W a b v acc) {x : S27} {v1 : Value} (hg : W.grownBy W' v.ownBlock) (hat : v1.ownBlock = v.ownBlock ∨ ∃ b, v1.ownBlock = some b ∧ W.heap.size ≤ b) (hR : k27.R 27 W' w.heap.size (fun k => k ≠ w.heap.size ∧ k ≠ w.heap.size + 1) v1 (acc ++ [x])) :
    UInv w (W'.setCell ⟨w.heap.size + 1, 4, none⟩ v1) a b v1 (acc ++ [x]) := by
  have hb : ∀ k, v.ownBlock = some k → w.heap.size ≤ k ∧ k ≠ w.heap.size ∧ k ≠ w.heap.size + 1 := fun k hk => ⟨own_base I.row.2.choose_spec.1 k hk, I.row.1 k hk⟩
  have hne : ∀ i, i < w.heap.size ∨ i = w.heap.size ∨ i = w.heap.size + 1 → some i ≠ v.ownBlock := fun i hi e => by
    have := hb i e.symm
    omega
  refine ⟨?_, blk_far (blk_grown I.res hg (hne _ (.inr (.inl rfl)))) (by show w.heap.size ≠ w.heap.size + 1; omega) _, ?_, Kd.R_far hR (fun k hk => hk.2) _⟩
  · refine Below.setCell ?_ (p := ⟨w.heap.size + 1, 4, none⟩) (Nat.le_succ _) _
    exact ⟨hg.os.trans I.bel.os, hg.tape.trans I.bel.tape, hg.output.trans I.bel.output, Nat.le_trans I.bel.size hg.size, fun i hi => (hg.block i (by have := I.bel.size; omega) (hne i (.inl hi))).trans (I.bel.block i hi)⟩
  · exact blk_set (blk_grown I.out hg (hne _ (.inr (.inr rfl)))) 4 v1
end

/-- the end of the loop -/
theorem unpk_end2 {w W0 W3 : World} {a b : Int} {v4 : Value} {acc : List S27} (I : UInv w W0 a b v4 acc)
    (hW3 : W3 = (((((W0.setCell ⟨w.heap.size, 0, none⟩ (.int .i64 a)).setCell ⟨w.heap.size, 1, none⟩ (.int .i64 b)).setCell ⟨w.heap.size, 2, none⟩ (.bool true)).setCell ⟨w.heap.size, 3, none⟩ (.slice none 0 0)).setCell ⟨w.heap.size, 4, none⟩ v4)) :
    W3.heap[w.heap.size]? = some (.cells #[.int .i64 a, .int .i64 b, .bool true, .slice none 0 0, v4] 27 (0, 0)) ∧ Un w ⟨a, b, true, [], acc⟩ (.returned (.agg #[.int .i64 a, .int .i64 b, .bool true, .slice none 0 0, v4])) W3 := by
  have h5 := blk_set (blk_set (blk_set (blk_set (blk_set I.res 0 (.int .i64 a)) 1 (.int .i64 b)) 2 (.bool true)) 3 (.slice none 0 0)) 4 v4
  rw [← hW3] at h5
  refine ⟨h5, _, rfl, k27_mkM W3 w.heap.size _ ⟨a, b, true, [], acc⟩ (v3 := .slice none 0 0) (Kd.R_nil _ _ _ _ _) (v4 := v4) ?_, ?_⟩
  · rw [hW3]
    exact Kd.R_mono (Kd.R_far (Kd.R_far (Kd.R_far (Kd.R_far (Kd.R_far I.row (p := ⟨w.heap.size, 0, none⟩) (fun k hk => hk.1) _) (p := ⟨w.heap.size, 1, none⟩) (fun k hk => hk.1) _) (p := ⟨w.heap.size, 2, none⟩) (fun k hk => hk.1) _) (p := ⟨w.heap.size, 3, none⟩) (fun k hk => hk.1) _) (p := ⟨w.heap.size, 4, none⟩) (fun k hk => hk.1) _) (fun _ _ => trivial)
  · rw [hW3]
    have hn : ∀ i, w.heap.size ≤ (⟨w.heap.size, i, none⟩ : Addr).block := fun i => Nat.le_refl _
    exact ((((I.bel.setCell (p := ⟨w.heap.size, 0, none⟩) (hn 0) _).setCell (p := ⟨w.heap.size, 1, none⟩) (hn 1) _).setCell (p := ⟨w.heap.size, 2, none⟩) (hn 2) _).setCell (p := ⟨w.heap.size, 3, none⟩) (hn 3) _).setCell (p := ⟨w.heap.size, 4, none⟩) (hn 4) _

theorem trL_step {l : List Pk} {k : Nat} (hk : k < l.length) : trL (l.take (k + 1)) = trL (l.take k) ++ [trOf l[k]] := by
  rw [List.take_succ_eq_append_getElem hk, trL_append]
  rfl

set_option maxHeartbeats 6400000 in
set_option maxRecDepth 100000 in
theorem unpk_any : ∀ (n : Nat) (x : Pk), dp x ≤ n → okP x → ∀ (b base : Nat) (ok : Nat → Prop) (w : World), IsPk w base ok b x → Calls Tryd.prog 82 #[.pointer (some ⟨b, 0, none⟩)] w (Un w (trOf x)) := by
  intro n
  induction n with
  | zero =>
    rintro ⟨cls, typ, tag, val, bv, data, kids, desc⟩ hd
    rw [dp] at hd
    omega
  | succ n ih =>
    rintro ⟨cls, typ, tag, val, bv, data, kids, desc⟩ hd hok b base ok w hI
    rw [dp] at hd
    rw [okP] at hok
    obtain ⟨⟨h0, h1⟩, ht, ⟨h2, h3⟩, h4, h5, h6⟩ := hok
    rcases ht with rfl | rfl
    · exact unpk_prim cls tag val bv data kids desc h0 h1 h2 h3 h4 b base ok w hI
    rw [trOf, if_pos rfl, if_pos rfl, decide_eq_true rfl]
    obtain ⟨db, v, bvv, cv, P⟩ := parts_of hI.bound
    obtain ⟨Z, hZ⟩ : ∃ Z : Obj, Z = (Obj.cells #[.int .i64 0, .int .i64 0, .bool false, .slice none 0 0, .slice none 0 0] 27) := ⟨_, rfl⟩
    have hb0 : Below w.heap.size w (w.alloc Z) := below_alloc (Below.refl _ _) _
    have P0 := P.below hb0
    have c0 : (w.alloc Z).cell? ⟨b, 0, none⟩ = some (.int .u8 cls) := P0.cell 0
    have c1 : (w.alloc Z).cell? ⟨b, 1, none⟩ = some (.int .u8 32) := P0.cell 1
    have c2 : (w.alloc Z).cell? ⟨b, 2, none⟩ = some (.int .u64 tag) := P0.cell 2
    have hb0' : Below w.heap.size w ((w.alloc Z).alloc Z) := below_alloc hb0 _
    have P0' := P.below hb0'
    have d0 : ((w.alloc Z).alloc Z).cell? ⟨b, 0, none⟩ = some (.int .u8 cls) := P0'.cell 0
    have d1 : ((w.alloc Z).alloc Z).cell? ⟨b, 1, none⟩ = some (.int .u8 32) := P0'.cell 1
    have d2 : ((w.alloc Z).alloc Z).cell? ⟨b, 2, none⟩ = some (.int .u64 tag) := P0'.cell 2
    have e1 : IntKind.i64.wrap cls = cls := by rw [IntKind.wrap_i64]; omega
    have e2 : IntKind.i64.wrap tag = tag := by rw [IntKind.wrap_i64]; omega
    have e3 : IntKind.i64.wrap (cls / 64) = cls / 64 := by rw [IntKind.wrap_i64]; omega
    have e4 : wrap64 cls = cls := by unfold wrap64; omega
    have e5 : wrap64 tag = tag := by unfold wrap64; omega
    have hW1 : ∀ W, W = ((w.alloc Z).alloc (.cells #[.int .i64 (cls / 64), .int .i64 tag, .bool true, .slice none 0 0, .slice none 0 0] 27)).drew → UInv w W (cls / 64) tag (.slice none 0 0) [] := by
      rintro W rfl
      refine ⟨(below_alloc hb0 _).drew, ?_, ?_, Kd.R_nil _ _ _ _ _⟩
      · show ((w.alloc Z).alloc _).heap[w.heap.size]? = _
        have := blk_alloc (blk_new w (.cells #[.int .i64 0, .int .i64 0, .bool false, .slice none 0 0, .slice none 0 0] 27)) (.cells #[.int .i64 (cls / 64), .int .i64 tag, .bool true, .slice none 0 0, .slice none 0 0] 27)
        rw [hZ]
        exact this
      · have := blk_new (w.alloc Z) (.cells #[.int .i64 (cls / 64), .int .i64 tag, .bool true, .slice none 0 0, .slice none 0 0] 27)
        have e : (w.alloc Z).heap.size = w.heap.size + 1 := by simp
        rw [e] at this
        exact this
    subst hZ
    obtain ⟨Ac, cc, hcv⟩ := Kd.R_slice P.rk
    subst hcv
    have HP := Lib.hid P
    have HW1 := Lib.hid hW1
    have H6 := Lib.hid h6
    have HIH := Lib.hid ih
    have HD : Hid (dpL kids ≤ n) := Lib.hid (by omega)
    clear P P0 P0' hI hb0 hb0' hW1 h6 ih hd
    go_enter Tryd.func82, Tryd.ntmps82
    go_wp2
    go_region
    clear c0 c1 c2 d0 d1 d2
    obtain ⟨W1, hW⟩ : ∃ W1, W1 = ((w.alloc (.cells #[.int .i64 0, .int .i64 0, .bool false, .slice none 0 0, .slice none 0 0] 27)).alloc (.cells #[.int .i64 (cls / 64), .int .i64 tag, .bool true, .slice none 0 0, .slice none 0 0] 27)).drew := ⟨_, rfl⟩
    have HI := Lib.hid (HW1.out W1 hW)
    rw [← hW]
    clear hW HW1
    have k2 : W1.cell? ⟨w.heap.size + 1, 2, none⟩ = some (.bool true) := blk_cell HI.out.out 2
    have k6 : W1.cell? ⟨b, 6, none⟩ = some (.slice Ac kids.length cc) := (HP.out.below HI.out.bel).cell 6
    clear e1 e2 e3 e4 e5
    go_wp2
    clear k2 k6
    go_loopw [42] (fun i wr => ∃ k : Nat, k ≤ kids.length ∧ i = .int .i64 k ∧ Hid (∃ v, UInv w wr (cls / 64) tag v (trL (kids.take k)))) (fun i _ => kids.length - (intOf i).toNat)
    case atStart => exact ⟨0, Nat.zero_le _, rfl, Lib.hid ⟨_, HI.out⟩⟩
    case round =>
      obtain ⟨k, hk, rfl, HV0⟩ := hrel
      obtain ⟨v, HV1⟩ := HV0.out
      have HV := Lib.hid HV1
      clear HV0 HV1
      clear HI
      by_cases hlt : k < kids.length
      · have PW := HP.out.below HV.out.bel
        obtain ⟨ad, cap, q, hsl, hcell, hkid⟩ := kid_at PW.rk hlt
        injection hsl with ha _ hcap
        subst ha
        subst hcap
        have HKID := Lib.hid (HIH.out kids[k] (Nat.le_trans (dpL_mem (List.getElem_mem hlt)) HD.out) (okL_mem H6.out (List.getElem_mem hlt)) q _ _ wr.drew (hkid.below ((Below.refl _ wr).drew)))
        have HST := Lib.hid (trL_step hlt)
        obtain ⟨kid, hkd⟩ : ∃ kid, kid = trOf kids[k] := ⟨_, rfl⟩
        rw [← hkd] at HKID HST
        have HLE : Hid ((trL (kids.take k)).length ≤ 1099511627776) := Lib.hid (by rw [trL_length, List.length_take]; omega)
        obtain ⟨acc, hacc⟩ : ∃ acc, acc = trL (kids.take k) := ⟨_, rfl⟩
        rw [← hacc] at HST HV HLE
        clear hkd hacc hkid PW
        go_wp2_with fail
        have HI2 := Lib.hid (HV.out.step (W' := wr.drew) ((Below.refl _ wr).drew))
        have s0 : wr.cell? ⟨w.heap.size + 1, 4, none⟩ = some v := blk_cell HV.out.out 4
        clear hcell
        go_region_law (first
          | ((refine Kd.R_append_step k27 (w0 := W4) (W := W4) w.heap.size (by rfl) (.tmp 47) (.tmp 50) 25 27 (.agg #[.int .i64 0, .int .i64 0, .bool false, .slice none 0 0, .slice none 0 0]) 72 (by rfl) Tryd.underlying25 info_ip rfl (show 0 < 5 by decide) (by decide) v acc kid _ (fun k => k ≠ w.heap.size ∧ k ≠ w.heap.size + 1) _ (by rfl) (by rfl) HM4.out HI2.out.okp HI4.out.fresh HI4.out.row (Below.refl _ _) HI4.out.bel.size (by have := HLE.out; omega) ?_
              intro v1 w1 hR1 hb1 hg1 hat1
              have hne := HI4.out.ne
              have x0 : w1.cell? ⟨w.heap.size + 1, 4, none⟩ = some v := blk_cell (blk_grown HI4.out.out hg1 hne) 4
              have xf : w1.frozen? ⟨w.heap.size + 1, 4, none⟩ = false := blk_frozen (blk_grown HI4.out.out hg1 hne) 4
              obtain ⟨Aq, cq, hvq, _, _⟩ := Kd.R_reads hR1
              subst hvq
              have h6 := HI4.out.app hg1 hat1 hR1
              simp only [List.length_append, List.length_singleton] at h6
              have HI6 := Lib.hid h6
              clear h6 hR1 hb1 hg1 hat1 hne))
          | (go_wp2_with (go_at_call 82
                          with_reducible refine HKID.out.mono ?_
                          rintro e W4 hR4
                          obtain ⟨c4, rfl, hI4, hM4⟩ := HI2.out.read hR4
                          obtain ⟨v5, v6, rfl, r5, r6⟩ := k27_openM hM4
                          have t0 : W4.cell? ⟨w.heap.size + 1, 4, none⟩ = some v := blk_cell hI4.out 4
                          have u0 : ∀ o, (W4.alloc o).cell? ⟨w.heap.size + 1, 4, none⟩ = some v := fun o => blk_cell (blk_alloc hI4.out o) 4
                          have HI4 := Lib.hid hI4
                          have HM4 := Lib.hid hM4
                          clear hI4 hM4 hR4 r5 r6)))
        all_goals (
          go_wp2
          go_roundw
          case rel =>
            refine ⟨k + 1, by omega, by go_num, Lib.hid ⟨_, by rw [HST.out]; exact HI6.out⟩⟩
          case measure => simp [intOf]; omega)
      · obtain rfl : k = kids.length := by omega
        obtain ⟨Av, cv, rfl, hav, hcv⟩ := Kd.R_reads HV.out.row
        clear hav hcv
        have hfin : trL (kids.take kids.length) = trL kids := by rw [List.take_length]
        rw [hfin] at HV
        have hlen : (trL (kids.take kids.length)).length = (trL kids).length := by rw [hfin]
        have o0 : wr.cell? ⟨w.heap.size + 1, 0, none⟩ = some (.int .i64 (cls / 64)) := blk_cell HV.out.out 0
        have o1 : wr.cell? ⟨w.heap.size + 1, 1, none⟩ = some (.int .i64 tag) := blk_cell HV.out.out 1
        have o2 : wr.cell? ⟨w.heap.size + 1, 2, none⟩ = some (.bool true) := blk_cell HV.out.out 2
        have o3 : wr.cell? ⟨w.heap.size + 1, 3, none⟩ = some (.slice none 0 0) := blk_cell HV.out.out 3
        have o4 : wr.cell? ⟨w.heap.size + 1, 4, none⟩ = some (.slice Av (trL kids).length cv) := by
          exact blk_cell HV.out.out 4
        have kf0 : wr.frozen? ⟨w.heap.size, 0, none⟩ = false := blk_frozen HV.out.res 0
        have kf1 : wr.frozen? ⟨w.heap.size, 1, none⟩ = false := blk_frozen HV.out.res 1
        have kf2 : wr.frozen? ⟨w.heap.size, 2, none⟩ = false := blk_frozen HV.out.res 2
        have kf3 : wr.frozen? ⟨w.heap.size, 3, none⟩ = false := blk_frozen HV.out.res 3
        have kf4 : wr.frozen? ⟨w.heap.size, 4, none⟩ = false := blk_frozen HV.out.res 4
        have k0 : wr.cell? ⟨w.heap.size, 0, none⟩ = some (.int .i64 0) := blk_cell HV.out.res 0
        have k1 : wr.cell? ⟨w.heap.size, 1, none⟩ = some (.int .i64 0) := blk_cell HV.out.res 1
        have k2 : wr.cell? ⟨w.heap.size, 2, none⟩ = some (.bool false) := blk_cell HV.out.res 2
        have k3 : wr.cell? ⟨w.heap.size, 3, none⟩ = some (.slice none 0 0) := blk_cell HV.out.res 3
        have k4 : wr.cell? ⟨w.heap.size, 4, none⟩ = some (.slice none 0 0) := blk_cell HV.out.res 4
        go_wp2
        try simp only [Exit.inBlock, Exit.then]
        obtain ⟨h5, hend⟩ := unpk_end2 HV.out rfl
        exact bodyPost_ret (results_u rfl _ _ _ _ _ _ _ rfl h5 Tryd.underlying27 rfl size_ip) rfl hend
end Go.Proofs.YtbmcpjkhnhbjdaaDoor.Ber
