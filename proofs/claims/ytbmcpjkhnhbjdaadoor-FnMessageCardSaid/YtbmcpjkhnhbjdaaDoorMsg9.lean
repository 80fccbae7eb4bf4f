/- Parts of the proof of one law, in the order in which they build. Controls are encoded: the plain one, the one of RFC 3296. · impl.built and impl.Encode: data as a packet of the package, and its bytes. · The control of paged results is encoded. · Controls in a row are encoded. · impl.control: the controls that the law lets in. -/
import Derived.Handy
import Derived.Deep.RegionLaw
import Derived.Deep.DrawnRows
import Derived.Deep.RegionHeld3
import Derived.Test.YtbmcpjkhnhbjdaaDoorMsg1
import Derived.Test.YtbmcpjkhnhbjdaaDoorMsg2
import Derived.Test.YtbmcpjkhnhbjdaaDoorMsg3
import Derived.Test.YtbmcpjkhnhbjdaaDoorMsg4
import Derived.Test.YtbmcpjkhnhbjdaaDoorMsg5
import Derived.Test.YtbmcpjkhnhbjdaaDoorMsg6
import Derived.Test.YtbmcpjkhnhbjdaaDoorMsg7
import Derived.Test.YtbmcpjkhnhbjdaaDoorMsg8
namespace Go.Proofs.YtbmcpjkhnhbjdaaDoor.Ber
open Go.RowKit Go.Proofs.YtbmcpjkhnhbjdaaDoorW.PrintWords Go.Proofs.YtbmcpjkhnhbjdaaDoor.PFnEncode Go.Proofs.YtbmcpjkhnhbjdaaDoor.Tree Go.Proofs.YtbmcpjkhnhbjdaaDoor.Buf Go.Proofs.YtbmcpjkhnhbjdaaDoor.Pk Go.Proofs.YtbmcpjkhnhbjdaaDoor.Within Go.Proofs.YtbmcpjkhnhbjdaaDoor.Num
set_option linter.unusedVariables false
set_option linter.unusedSimpArgs false

theorem whole1 : whole 1 = [1] := by rw [whole, wl_small (by decide), be_one]; rfl
set_option maxHeartbeats 6400000 in
set_option maxRecDepth 100000 in
theorem newBool_true (cls typ tag : Int) (desc : ByteArray) (w : World) :
    Calls Tryd.prog 136 #[.int .u8 cls, .int .u8 typ, .int .u64 tag, .bool true, .string desc] w fun e w' => Made w (prim cls typ tag (.iface 4 (.bool true)) (whole 1) desc) e w' := by
  go_enter Tryd.func136, Tryd.ntmps136
  go_wp2_with (go_at_call 87; refine (encode_nil _ _ _ _ _).mono ?_)
  rintro e W1 ⟨b, rfl, hI, hB1⟩
  obtain ⟨db, v, bv, cv, P⟩ := parts_of hI.bound
  obtain ⟨P2, ho2⟩ := P.setVal (.iface 4 (.bool true)) rfl
  have c3 : W1.cell? ⟨b, 3, none⟩ = some .nilIface := P.cell 3
  have f3 := P.frozen 3
  have c5 : (W1.setCell ⟨b, 3, none⟩ (.iface 4 (.bool true))).cell? ⟨b, 5, none⟩ = some (.pointer (some ⟨db, 0, none⟩)) := P2.cell 5
  have hB2 : Below w.heap.size w (W1.setCell ⟨b, 3, none⟩ (.iface 4 (.bool true))) := hB1.setCell (p := ⟨b, 3, none⟩) P.leb _
  have HB2 := Lib.hid hB2
  have HP2 := Lib.hid P2
  clear P P2 hI hB1 hB2 ho2
  go_wp2_with fail
  go_region_with (first
    | (go_at_call 109
       refine (encInt_any 1 (by decide) _).mono ?_
       rintro e W3 ⟨v3, rfl, hR3, hb3⟩
       obtain ⟨A, c, rfl, hr3, hA⟩ := own_new hR3
       have hb4 : Below (W1.setCell ⟨b, 3, none⟩ (.iface 4 (.bool true))).heap.size (W1.setCell ⟨b, 3, none⟩ (.iface 4 (.bool true))) W3 := ⟨hb3.os, hb3.tape, hb3.output, hb3.size, hb3.block⟩
       have d5 : W3.cell? ⟨b, 5, none⟩ = some (.pointer (some ⟨db, 0, none⟩)) := (HP2.out.below hb4).cell 5
       have HW := Lib.hid (write_own HP2.out HB2.out.size hb4 hr3 (c := c) hA (by have := whole_len 1 (by decide); simp [bare]; omega))
       clear hR3 hr3 hA hb3 hb4)
    | (go_at_call 88
       refine HW.out.mono ?_
       rintro e W4 ⟨rfl, v', P4, ho4⟩))
  all_goals (
    go_wp2
    go_ret
    exact made_intro rfl P4 (HB2.out.trans (ho4.below HB2.out.size (fun i hi => hi.2.1))))
theorem boolT_at (cls typ tag : Int) (desc : ByteArray) (w : World) :
    Calls Tryd.prog 136 #[.int .u8 cls, .int .u8 typ, .int .u64 tag, .bool true, .string desc] w fun e w' => ∃ q, e = .returned (.pointer (some ⟨q, 0, none⟩)) ∧ At w' w' w.heap.size q (prim cls typ tag (.iface 4 (.bool true)) (whole 1) desc) ∧ Below w.heap.size w w' :=
  (newBool_true cls typ tag desc w).mono fun _ _ h => h.at
/-- the request as a packet -/
def pCSFV (o : ByteArray) (v : ByteArray) : Pk := (addK (addK (bare 0 32 16 .nilIface ⟨#[67, 111, 110, 116, 114, 111, 108]⟩) (prim 0 0 4 (strV o) (bytesOf o) ⟨#[67, 111, 110, 116, 114, 111, 108, 32, 84, 121, 112, 101, 32, 40, 41]⟩)) (prim 0 0 4 (strV v) (bytesOf v) ⟨#[67, 111, 110, 116, 114, 111, 108, 32, 86, 97, 108, 117, 101]⟩))
theorem pCSFV_fine (o : ByteArray) (v : ByteArray) (ho : o.size ≤ 1000000) (hv : v.size ≤ 1000000) : Fine (pCSFV o v) 2000028 := (fine_add (fine_add (fine_bare _ _ _ _ _ (by decide) (by decide) (by decide) (Or.inr rfl) (by decide) (by decide)) (fine_str _ _ _ _ _ (by decide) (by decide) (by decide) (Or.inl rfl) (by decide) (by decide) ho) (by decide)) (fine_str _ _ _ _ _ (by decide) (by decide) (by decide) (Or.inl rfl) (by decide) (by decide) hv) (by decide))
set_option maxHeartbeats 3200000 in
set_option maxRecDepth 100000 in
theorem enc_CSFV (o : ByteArray) (v : ByteArray) (ho : o.size ≤ 1000000) (hv : v.size ≤ 1000000) (ev : v.toList.isEmpty = false) (r : Nat) (w : World)
    (hr : w.heap[r]? = some (.cells #[.string o, .bool false, .string v] 214 (0, 0))) :
    Calls Tryd.prog 152 #[.pointer (some ⟨r, 0, none⟩)] w fun e w' => ∃ q, e = .returned (.pointer (some ⟨q, 0, none⟩)) ∧ At w' w' w.heap.size q (pCSFV o v) ∧ Below w.heap.size w w' := by
  have HR := Lib.hid hr
  have HT0 : Hid (Top (bare 0 32 16 .nilIface ⟨#[67, 111, 110, 116, 114, 111, 108]⟩) 0) := Lib.hid ((fine_bare _ _ _ _ _ (by decide) (by decide) (by decide) (Or.inr rfl) (by decide) (by decide))).1
  have HT1 : Hid (Top (prim 0 0 4 (strV o) (bytesOf o) ⟨#[67, 111, 110, 116, 114, 111, 108, 32, 84, 121, 112, 101, 32, 40, 41]⟩) 1000000) := Lib.hid ((fine_str _ _ _ _ _ (by decide) (by decide) (by decide) (Or.inl rfl) (by decide) (by decide) ho)).1
  have HT2 : Hid (Top (addK (bare 0 32 16 .nilIface ⟨#[67, 111, 110, 116, 114, 111, 108]⟩) (prim 0 0 4 (strV o) (bytesOf o) ⟨#[67, 111, 110, 116, 114, 111, 108, 32, 84, 121, 112, 101, 32, 40, 41]⟩)) 1000014) := Lib.hid ((fine_add (fine_bare _ _ _ _ _ (by decide) (by decide) (by decide) (Or.inr rfl) (by decide) (by decide)) (fine_str _ _ _ _ _ (by decide) (by decide) (by decide) (Or.inl rfl) (by decide) (by decide) ho) (by decide))).1
  have HT3 : Hid (Top (prim 0 0 4 (strV v) (bytesOf v) ⟨#[67, 111, 110, 116, 114, 111, 108, 32, 86, 97, 108, 117, 101]⟩) 1000000) := Lib.hid ((fine_str _ _ _ _ _ (by decide) (by decide) (by decide) (Or.inl rfl) (by decide) (by decide) hv)).1
  have HT4 : Hid (Top (addK (addK (bare 0 32 16 .nilIface ⟨#[67, 111, 110, 116, 114, 111, 108]⟩) (prim 0 0 4 (strV o) (bytesOf o) ⟨#[67, 111, 110, 116, 114, 111, 108, 32, 84, 121, 112, 101, 32, 40, 41]⟩)) (prim 0 0 4 (strV v) (bytesOf v) ⟨#[67, 111, 110, 116, 114, 111, 108, 32, 86, 97, 108, 117, 101]⟩)) 2000028) := Lib.hid ((fine_add (fine_add (fine_bare _ _ _ _ _ (by decide) (by decide) (by decide) (Or.inr rfl) (by decide) (by decide)) (fine_str _ _ _ _ _ (by decide) (by decide) (by decide) (Or.inl rfl) (by decide) (by decide) ho) (by decide)) (fine_str _ _ _ _ _ (by decide) (by decide) (by decide) (Or.inl rfl) (by decide) (by decide) hv) (by decide))).1
  have HS : Hid (o.size ≤ 140737488355328 ∧ v.size ≤ 140737488355328 ∧ ByteArray.empty.size ≤ 140737488355328) := Lib.hid (⟨by omega, by omega, by decide⟩)
  clear hr ho hv
  go_enter Tryd.func152, Tryd.ntmps152
  go_wp2_with (first
    | (go_at_call 87
       first
       | (with_reducible refine (encode_at 0 32 16 _ w).mono ?_
          rintro e W1 ⟨qp, rfl, hA, hB⟩
          have HAp_1 := Lib.hid hA
          have HZp : Hid (w.heap.size ≤ w.heap.size) := Lib.hid (Nat.le_refl _)
          have HB1 := Lib.hid (hB)
          have c1_0 : W1.cell? ⟨r, 0, none⟩ = some (.string o) := blk_cell (blk_below HR.out HB1.out) 0
          clear hA hB))
    | (go_at_call 62
       first
       | (with_reducible refine (string_at 0 0 4 o _ W1 HS.out.1).mono ?_
          rintro e W2 ⟨qc1, rfl, hA, hB⟩
          have HAc1_2 := Lib.hid hA
          have HLp_c1 := Lib.hid HAp_1.out.bel.size
          have HAp_2 := Lib.hid (HAp_1.out.on hB)
          have HB2 := Lib.hid (HB1.out.trans (hB.mono HB1.out.size))
          clear hA hB)
       | (with_reducible refine (string_at 0 0 4 v _ W3 HS.out.2.1).mono ?_
          rintro e W4 ⟨qc3, rfl, hA, hB⟩
          have HAc3_4 := Lib.hid hA
          have HLp_c3 := Lib.hid HAp_3.out.bel.size
          have HAp_4 := Lib.hid (HAp_3.out.on hB)
          have HB4 := Lib.hid (HB3.out.trans (hB.mono HB3.out.size))
          clear hA hB))
    | (go_at_call 93
       first
       | (with_reducible refine (app_at HAp_2.out HAc1_2.out HLp_c1.out HT0.out HT1.out (by decide) (by decide)).mono ?_
          rintro e W3 ⟨⟨u3_, rfl⟩, hA, hB⟩
          have HAp_3 := Lib.hid hA
          have HB3 := Lib.hid (HB2.out.trans (hB.mono HZp.out))
          have c3_1 : W3.cell? ⟨r, 1, none⟩ = some (.bool false) := blk_cell (blk_below HR.out HB3.out) 1
          have c3_2 : W3.cell? ⟨r, 2, none⟩ = some (.string v) := blk_cell (blk_below HR.out HB3.out) 2
          clear hA hB)
       | (with_reducible refine (app_at HAp_4.out HAc3_4.out HLp_c3.out HT2.out HT3.out (by decide) (by decide)).mono ?_
          rintro e W5 ⟨⟨u5_, rfl⟩, hA, hB⟩
          have HAp_5 := Lib.hid hA
          have HB5 := Lib.hid (HB4.out.trans (hB.mono HZp.out))
          clear hA hB)))
  go_ret
  exact ⟨qp, rfl, HAp_5.out, HB5.out⟩

/-- the request as a packet -/
def pCSFE (o : ByteArray) (v : ByteArray) : Pk := (addK (bare 0 32 16 .nilIface ⟨#[67, 111, 110, 116, 114, 111, 108]⟩) (prim 0 0 4 (strV o) (bytesOf o) ⟨#[67, 111, 110, 116, 114, 111, 108, 32, 84, 121, 112, 101, 32, 40, 41]⟩))
theorem pCSFE_fine (o : ByteArray) (v : ByteArray) (ho : o.size ≤ 1000000) (hv : v.size ≤ 1000000) : Fine (pCSFE o v) 1000014 := (fine_add (fine_bare _ _ _ _ _ (by decide) (by decide) (by decide) (Or.inr rfl) (by decide) (by decide)) (fine_str _ _ _ _ _ (by decide) (by decide) (by decide) (Or.inl rfl) (by decide) (by decide) ho) (by decide))
set_option maxHeartbeats 3200000 in
set_option maxRecDepth 100000 in
theorem enc_CSFE (o : ByteArray) (v : ByteArray) (ho : o.size ≤ 1000000) (hv : v.size ≤ 1000000) (ev : v.toList.isEmpty = true) (r : Nat) (w : World)
    (hr : w.heap[r]? = some (.cells #[.string o, .bool false, .string v] 214 (0, 0))) :
    Calls Tryd.prog 152 #[.pointer (some ⟨r, 0, none⟩)] w fun e w' => ∃ q, e = .returned (.pointer (some ⟨q, 0, none⟩)) ∧ At w' w' w.heap.size q (pCSFE o v) ∧ Below w.heap.size w w' := by
  have HR := Lib.hid hr
  have HT0 : Hid (Top (bare 0 32 16 .nilIface ⟨#[67, 111, 110, 116, 114, 111, 108]⟩) 0) := Lib.hid ((fine_bare _ _ _ _ _ (by decide) (by decide) (by decide) (Or.inr rfl) (by decide) (by decide))).1
  have HT1 : Hid (Top (prim 0 0 4 (strV o) (bytesOf o) ⟨#[67, 111, 110, 116, 114, 111, 108, 32, 84, 121, 112, 101, 32, 40, 41]⟩) 1000000) := Lib.hid ((fine_str _ _ _ _ _ (by decide) (by decide) (by decide) (Or.inl rfl) (by decide) (by decide) ho)).1
  have HT2 : Hid (Top (addK (bare 0 32 16 .nilIface ⟨#[67, 111, 110, 116, 114, 111, 108]⟩) (prim 0 0 4 (strV o) (bytesOf o) ⟨#[67, 111, 110, 116, 114, 111, 108, 32, 84, 121, 112, 101, 32, 40, 41]⟩)) 1000014) := Lib.hid ((fine_add (fine_bare _ _ _ _ _ (by decide) (by decide) (by decide) (Or.inr rfl) (by decide) (by decide)) (fine_str _ _ _ _ _ (by decide) (by decide) (by decide) (Or.inl rfl) (by decide) (by decide) ho) (by decide))).1
  have HS : Hid (o.size ≤ 140737488355328 ∧ v.size ≤ 140737488355328 ∧ ByteArray.empty.size ≤ 140737488355328) := Lib.hid (⟨by omega, by omega, by decide⟩)
  clear hr ho hv
  go_enter Tryd.func152, Tryd.ntmps152
  go_wp2_with (first
    | (go_at_call 87
       first
       | (with_reducible refine (encode_at 0 32 16 _ w).mono ?_
          rintro e W1 ⟨qp, rfl, hA, hB⟩
          have HAp_1 := Lib.hid hA
          have HZp : Hid (w.heap.size ≤ w.heap.size) := Lib.hid (Nat.le_refl _)
          have HB1 := Lib.hid (hB)
          have c1_0 : W1.cell? ⟨r, 0, none⟩ = some (.string o) := blk_cell (blk_below HR.out HB1.out) 0
          clear hA hB))
    | (go_at_call 62
       first
       | (with_reducible refine (string_at 0 0 4 o _ W1 HS.out.1).mono ?_
          rintro e W2 ⟨qc1, rfl, hA, hB⟩
          have HAc1_2 := Lib.hid hA
          have HLp_c1 := Lib.hid HAp_1.out.bel.size
          have HAp_2 := Lib.hid (HAp_1.out.on hB)
          have HB2 := Lib.hid (HB1.out.trans (hB.mono HB1.out.size))
          clear hA hB))
    | (go_at_call 93
       first
       | (with_reducible refine (app_at HAp_2.out HAc1_2.out HLp_c1.out HT0.out HT1.out (by decide) (by decide)).mono ?_
          rintro e W3 ⟨⟨u3_, rfl⟩, hA, hB⟩
          have HAp_3 := Lib.hid hA
          have HB3 := Lib.hid (HB2.out.trans (hB.mono HZp.out))
          have c3_1 : W3.cell? ⟨r, 1, none⟩ = some (.bool false) := blk_cell (blk_below HR.out HB3.out) 1
          have c3_2 : W3.cell? ⟨r, 2, none⟩ = some (.string v) := blk_cell (blk_below HR.out HB3.out) 2
          clear hA hB)))
  go_ret
  exact ⟨qp, rfl, HAp_3.out, HB3.out⟩

/-- the request as a packet -/
def pCSTV (o : ByteArray) (v : ByteArray) : Pk := (addK (addK (addK (bare 0 32 16 .nilIface ⟨#[67, 111, 110, 116, 114, 111, 108]⟩) (prim 0 0 4 (strV o) (bytesOf o) ⟨#[67, 111, 110, 116, 114, 111, 108, 32, 84, 121, 112, 101, 32, 40, 41]⟩)) (prim 0 0 1 (.iface 4 (.bool true)) (whole 1) ⟨#[67, 114, 105, 116, 105, 99, 97, 108, 105, 116, 121]⟩)) (prim 0 0 4 (strV v) (bytesOf v) ⟨#[67, 111, 110, 116, 114, 111, 108, 32, 86, 97, 108, 117, 101]⟩))
theorem pCSTV_fine (o : ByteArray) (v : ByteArray) (ho : o.size ≤ 1000000) (hv : v.size ≤ 1000000) : Fine (pCSTV o v) 2000050 := (fine_add (fine_add (fine_add (fine_bare _ _ _ _ _ (by decide) (by decide) (by decide) (Or.inr rfl) (by decide) (by decide)) (fine_str _ _ _ _ _ (by decide) (by decide) (by decide) (Or.inl rfl) (by decide) (by decide) ho) (by decide)) (fine_prim _ _ _ _ _ _ (by decide) (by decide) (by decide) (Or.inl rfl) (by decide) (by decide) (whole_len 1 (by decide))) (by decide)) (fine_str _ _ _ _ _ (by decide) (by decide) (by decide) (Or.inl rfl) (by decide) (by decide) hv) (by decide))
set_option maxHeartbeats 3200000 in
set_option maxRecDepth 100000 in
theorem enc_CSTV (o : ByteArray) (v : ByteArray) (ho : o.size ≤ 1000000) (hv : v.size ≤ 1000000) (ev : v.toList.isEmpty = false) (r : Nat) (w : World)
    (hr : w.heap[r]? = some (.cells #[.string o, .bool true, .string v] 214 (0, 0))) :
    Calls Tryd.prog 152 #[.pointer (some ⟨r, 0, none⟩)] w fun e w' => ∃ q, e = .returned (.pointer (some ⟨q, 0, none⟩)) ∧ At w' w' w.heap.size q (pCSTV o v) ∧ Below w.heap.size w w' := by
  have HR := Lib.hid hr
  have HT0 : Hid (Top (bare 0 32 16 .nilIface ⟨#[67, 111, 110, 116, 114, 111, 108]⟩) 0) := Lib.hid ((fine_bare _ _ _ _ _ (by decide) (by decide) (by decide) (Or.inr rfl) (by decide) (by decide))).1
  have HT1 : Hid (Top (prim 0 0 4 (strV o) (bytesOf o) ⟨#[67, 111, 110, 116, 114, 111, 108, 32, 84, 121, 112, 101, 32, 40, 41]⟩) 1000000) := Lib.hid ((fine_str _ _ _ _ _ (by decide) (by decide) (by decide) (Or.inl rfl) (by decide) (by decide) ho)).1
  have HT2 : Hid (Top (addK (bare 0 32 16 .nilIface ⟨#[67, 111, 110, 116, 114, 111, 108]⟩) (prim 0 0 4 (strV o) (bytesOf o) ⟨#[67, 111, 110, 116, 114, 111, 108, 32, 84, 121, 112, 101, 32, 40, 41]⟩)) 1000014) := Lib.hid ((fine_add (fine_bare _ _ _ _ _ (by decide) (by decide) (by decide) (Or.inr rfl) (by decide) (by decide)) (fine_str _ _ _ _ _ (by decide) (by decide) (by decide) (Or.inl rfl) (by decide) (by decide) ho) (by decide))).1
  have HT3 : Hid (Top (prim 0 0 1 (.iface 4 (.bool true)) (whole 1) ⟨#[67, 114, 105, 116, 105, 99, 97, 108, 105, 116, 121]⟩) 8) := Lib.hid ((fine_prim _ _ _ _ _ _ (by decide) (by decide) (by decide) (Or.inl rfl) (by decide) (by decide) (whole_len 1 (by decide)))).1
  have HT4 : Hid (Top (addK (addK (bare 0 32 16 .nilIface ⟨#[67, 111, 110, 116, 114, 111, 108]⟩) (prim 0 0 4 (strV o) (bytesOf o) ⟨#[67, 111, 110, 116, 114, 111, 108, 32, 84, 121, 112, 101, 32, 40, 41]⟩)) (prim 0 0 1 (.iface 4 (.bool true)) (whole 1) ⟨#[67, 114, 105, 116, 105, 99, 97, 108, 105, 116, 121]⟩)) 1000036) := Lib.hid ((fine_add (fine_add (fine_bare _ _ _ _ _ (by decide) (by decide) (by decide) (Or.inr rfl) (by decide) (by decide)) (fine_str _ _ _ _ _ (by decide) (by decide) (by decide) (Or.inl rfl) (by decide) (by decide) ho) (by decide)) (fine_prim _ _ _ _ _ _ (by decide) (by decide) (by decide) (Or.inl rfl) (by decide) (by decide) (whole_len 1 (by decide))) (by decide))).1
  have HT5 : Hid (Top (prim 0 0 4 (strV v) (bytesOf v) ⟨#[67, 111, 110, 116, 114, 111, 108, 32, 86, 97, 108, 117, 101]⟩) 1000000) := Lib.hid ((fine_str _ _ _ _ _ (by decide) (by decide) (by decide) (Or.inl rfl) (by decide) (by decide) hv)).1
  have HT6 : Hid (Top (addK (addK (addK (bare 0 32 16 .nilIface ⟨#[67, 111, 110, 116, 114, 111, 108]⟩) (prim 0 0 4 (strV o) (bytesOf o) ⟨#[67, 111, 110, 116, 114, 111, 108, 32, 84, 121, 112, 101, 32, 40, 41]⟩)) (prim 0 0 1 (.iface 4 (.bool true)) (whole 1) ⟨#[67, 114, 105, 116, 105, 99, 97, 108, 105, 116, 121]⟩)) (prim 0 0 4 (strV v) (bytesOf v) ⟨#[67, 111, 110, 116, 114, 111, 108, 32, 86, 97, 108, 117, 101]⟩)) 2000050) := Lib.hid ((fine_add (fine_add (fine_add (fine_bare _ _ _ _ _ (by decide) (by decide) (by decide) (Or.inr rfl) (by decide) (by decide)) (fine_str _ _ _ _ _ (by decide) (by decide) (by decide) (Or.inl rfl) (by decide) (by decide) ho) (by decide)) (fine_prim _ _ _ _ _ _ (by decide) (by decide) (by decide) (Or.inl rfl) (by decide) (by decide) (whole_len 1 (by decide))) (by decide)) (fine_str _ _ _ _ _ (by decide) (by decide) (by decide) (Or.inl rfl) (by decide) (by decide) hv) (by decide))).1
  have HS : Hid (o.size ≤ 140737488355328 ∧ v.size ≤ 140737488355328 ∧ ByteArray.empty.size ≤ 140737488355328) := Lib.hid (⟨by omega, by omega, by decide⟩)
  clear hr ho hv
  go_enter Tryd.func152, Tryd.ntmps152
  go_wp2_with (first
    | (go_at_call 87
       first
       | (with_reducible refine (encode_at 0 32 16 _ w).mono ?_
          rintro e W1 ⟨qp, rfl, hA, hB⟩
          have HAp_1 := Lib.hid hA
          have HZp : Hid (w.heap.size ≤ w.heap.size) := Lib.hid (Nat.le_refl _)
          have HB1 := Lib.hid (hB)
          have c1_0 : W1.cell? ⟨r, 0, none⟩ = some (.string o) := blk_cell (blk_below HR.out HB1.out) 0
          clear hA hB))
    | (go_at_call 62
       first
       | (with_reducible refine (string_at 0 0 4 o _ W1 HS.out.1).mono ?_
          rintro e W2 ⟨qc1, rfl, hA, hB⟩
          have HAc1_2 := Lib.hid hA
          have HLp_c1 := Lib.hid HAp_1.out.bel.size
          have HAp_2 := Lib.hid (HAp_1.out.on hB)
          have HB2 := Lib.hid (HB1.out.trans (hB.mono HB1.out.size))
          clear hA hB)
       | (with_reducible refine (string_at 0 0 4 v _ W5 HS.out.2.1).mono ?_
          rintro e W6 ⟨qc5, rfl, hA, hB⟩
          have HAc5_6 := Lib.hid hA
          have HLp_c5 := Lib.hid HAp_5.out.bel.size
          have HAp_6 := Lib.hid (HAp_5.out.on hB)
          have HB6 := Lib.hid (HB5.out.trans (hB.mono HB5.out.size))
          clear hA hB))
    | (go_at_call 93
       first
       | (with_reducible refine (app_at HAp_2.out HAc1_2.out HLp_c1.out HT0.out HT1.out (by decide) (by decide)).mono ?_
          rintro e W3 ⟨⟨u3_, rfl⟩, hA, hB⟩
          have HAp_3 := Lib.hid hA
          have HB3 := Lib.hid (HB2.out.trans (hB.mono HZp.out))
          have c3_1 : W3.cell? ⟨r, 1, none⟩ = some (.bool true) := blk_cell (blk_below HR.out HB3.out) 1
          have c3_2 : W3.cell? ⟨r, 2, none⟩ = some (.string v) := blk_cell (blk_below HR.out HB3.out) 2
          clear hA hB)
       | (with_reducible refine (app_at HAp_4.out HAc3_4.out HLp_c3.out HT2.out HT3.out (by decide) (by decide)).mono ?_
          rintro e W5 ⟨⟨u5_, rfl⟩, hA, hB⟩
          have HAp_5 := Lib.hid hA
          have HB5 := Lib.hid (HB4.out.trans (hB.mono HZp.out))
          have c5_1 : W5.cell? ⟨r, 1, none⟩ = some (.bool true) := blk_cell (blk_below HR.out HB5.out) 1
          have c5_2 : W5.cell? ⟨r, 2, none⟩ = some (.string v) := blk_cell (blk_below HR.out HB5.out) 2
          clear hA hB)
       | (with_reducible refine (app_at HAp_6.out HAc5_6.out HLp_c5.out HT4.out HT5.out (by decide) (by decide)).mono ?_
          rintro e W7 ⟨⟨u7_, rfl⟩, hA, hB⟩
          have HAp_7 := Lib.hid hA
          have HB7 := Lib.hid (HB6.out.trans (hB.mono HZp.out))
          clear hA hB))
    | (go_at_call 136
       first
       | (with_reducible refine (boolT_at 0 0 1 _ W3).mono ?_
          rintro e W4 ⟨qc3, rfl, hA, hB⟩
          have HAc3_4 := Lib.hid hA
          have HLp_c3 := Lib.hid HAp_3.out.bel.size
          have HAp_4 := Lib.hid (HAp_3.out.on hB)
          have HB4 := Lib.hid (HB3.out.trans (hB.mono HB3.out.size))
          clear hA hB)))
  go_ret
  exact ⟨qp, rfl, HAp_7.out, HB7.out⟩

/-- the request as a packet -/
def pCSTE (o : ByteArray) (v : ByteArray) : Pk := (addK (addK (bare 0 32 16 .nilIface ⟨#[67, 111, 110, 116, 114, 111, 108]⟩) (prim 0 0 4 (strV o) (bytesOf o) ⟨#[67, 111, 110, 116, 114, 111, 108, 32, 84, 121, 112, 101, 32, 40, 41]⟩)) (prim 0 0 1 (.iface 4 (.bool true)) (whole 1) ⟨#[67, 114, 105, 116, 105, 99, 97, 108, 105, 116, 121]⟩))
theorem pCSTE_fine (o : ByteArray) (v : ByteArray) (ho : o.size ≤ 1000000) (hv : v.size ≤ 1000000) : Fine (pCSTE o v) 1000036 := (fine_add (fine_add (fine_bare _ _ _ _ _ (by decide) (by decide) (by decide) (Or.inr rfl) (by decide) (by decide)) (fine_str _ _ _ _ _ (by decide) (by decide) (by decide) (Or.inl rfl) (by decide) (by decide) ho) (by decide)) (fine_prim _ _ _ _ _ _ (by decide) (by decide) (by decide) (Or.inl rfl) (by decide) (by decide) (whole_len 1 (by decide))) (by decide))
set_option maxHeartbeats 3200000 in
set_option maxRecDepth 100000 in
theorem enc_CSTE (o : ByteArray) (v : ByteArray) (ho : o.size ≤ 1000000) (hv : v.size ≤ 1000000) (ev : v.toList.isEmpty = true) (r : Nat) (w : World)
    (hr : w.heap[r]? = some (.cells #[.string o, .bool true, .string v] 214 (0, 0))) :
    Calls Tryd.prog 152 #[.pointer (some ⟨r, 0, none⟩)] w fun e w' => ∃ q, e = .returned (.pointer (some ⟨q, 0, none⟩)) ∧ At w' w' w.heap.size q (pCSTE o v) ∧ Below w.heap.size w w' := by
  have HR := Lib.hid hr
  have HT0 : Hid (Top (bare 0 32 16 .nilIface ⟨#[67, 111, 110, 116, 114, 111, 108]⟩) 0) := Lib.hid ((fine_bare _ _ _ _ _ (by decide) (by decide) (by decide) (Or.inr rfl) (by decide) (by decide))).1
  have HT1 : Hid (Top (prim 0 0 4 (strV o) (bytesOf o) ⟨#[67, 111, 110, 116, 114, 111, 108, 32, 84, 121, 112, 101, 32, 40, 41]⟩) 1000000) := Lib.hid ((fine_str _ _ _ _ _ (by decide) (by decide) (by decide) (Or.inl rfl) (by decide) (by decide) ho)).1
  have HT2 : Hid (Top (addK (bare 0 32 16 .nilIface ⟨#[67, 111, 110, 116, 114, 111, 108]⟩) (prim 0 0 4 (strV o) (bytesOf o) ⟨#[67, 111, 110, 116, 114, 111, 108, 32, 84, 121, 112, 101, 32, 40, 41]⟩)) 1000014) := Lib.hid ((fine_add (fine_bare _ _ _ _ _ (by decide) (by decide) (by decide) (Or.inr rfl) (by decide) (by decide)) (fine_str _ _ _ _ _ (by decide) (by decide) (by decide) (Or.inl rfl) (by decide) (by decide) ho) (by decide))).1
  have HT3 : Hid (Top (prim 0 0 1 (.iface 4 (.bool true)) (whole 1) ⟨#[67, 114, 105, 116, 105, 99, 97, 108, 105, 116, 121]⟩) 8) := Lib.hid ((fine_prim _ _ _ _ _ _ (by decide) (by decide) (by decide) (Or.inl rfl) (by decide) (by decide) (whole_len 1 (by decide)))).1
  have HT4 : Hid (Top (addK (addK (bare 0 32 16 .nilIface ⟨#[67, 111, 110, 116, 114, 111, 108]⟩) (prim 0 0 4 (strV o) (bytesOf o) ⟨#[67, 111, 110, 116, 114, 111, 108, 32, 84, 121, 112, 101, 32, 40, 41]⟩)) (prim 0 0 1 (.iface 4 (.bool true)) (whole 1) ⟨#[67, 114, 105, 116, 105, 99, 97, 108, 105, 116, 121]⟩)) 1000036) := Lib.hid ((fine_add (fine_add (fine_bare _ _ _ _ _ (by decide) (by decide) (by decide) (Or.inr rfl) (by decide) (by decide)) (fine_str _ _ _ _ _ (by decide) (by decide) (by decide) (Or.inl rfl) (by decide) (by decide) ho) (by decide)) (fine_prim _ _ _ _ _ _ (by decide) (by decide) (by decide) (Or.inl rfl) (by decide) (by decide) (whole_len 1 (by decide))) (by decide))).1
  have HS : Hid (o.size ≤ 140737488355328 ∧ v.size ≤ 140737488355328 ∧ ByteArray.empty.size ≤ 140737488355328) := Lib.hid (⟨by omega, by omega, by decide⟩)
  clear hr ho hv
  go_enter Tryd.func152, Tryd.ntmps152
  go_wp2_with (first
    | (go_at_call 87
       first
       | (with_reducible refine (encode_at 0 32 16 _ w).mono ?_
          rintro e W1 ⟨qp, rfl, hA, hB⟩
          have HAp_1 := Lib.hid hA
          have HZp : Hid (w.heap.size ≤ w.heap.size) := Lib.hid (Nat.le_refl _)
          have HB1 := Lib.hid (hB)
          have c1_0 : W1.cell? ⟨r, 0, none⟩ = some (.string o) := blk_cell (blk_below HR.out HB1.out) 0
          clear hA hB))
    | (go_at_call 62
       first
       | (with_reducible refine (string_at 0 0 4 o _ W1 HS.out.1).mono ?_
          rintro e W2 ⟨qc1, rfl, hA, hB⟩
          have HAc1_2 := Lib.hid hA
          have HLp_c1 := Lib.hid HAp_1.out.bel.size
          have HAp_2 := Lib.hid (HAp_1.out.on hB)
          have HB2 := Lib.hid (HB1.out.trans (hB.mono HB1.out.size))
          clear hA hB))
    | (go_at_call 93
       first
       | (with_reducible refine (app_at HAp_2.out HAc1_2.out HLp_c1.out HT0.out HT1.out (by decide) (by decide)).mono ?_
          rintro e W3 ⟨⟨u3_, rfl⟩, hA, hB⟩
          have HAp_3 := Lib.hid hA
          have HB3 := Lib.hid (HB2.out.trans (hB.mono HZp.out))
          have c3_1 : W3.cell? ⟨r, 1, none⟩ = some (.bool true) := blk_cell (blk_below HR.out HB3.out) 1
          have c3_2 : W3.cell? ⟨r, 2, none⟩ = some (.string v) := blk_cell (blk_below HR.out HB3.out) 2
          clear hA hB)
       | (with_reducible refine (app_at HAp_4.out HAc3_4.out HLp_c3.out HT2.out HT3.out (by decide) (by decide)).mono ?_
          rintro e W5 ⟨⟨u5_, rfl⟩, hA, hB⟩
          have HAp_5 := Lib.hid hA
          have HB5 := Lib.hid (HB4.out.trans (hB.mono HZp.out))
          have c5_1 : W5.cell? ⟨r, 1, none⟩ = some (.bool true) := blk_cell (blk_below HR.out HB5.out) 1
          have c5_2 : W5.cell? ⟨r, 2, none⟩ = some (.string v) := blk_cell (blk_below HR.out HB5.out) 2
          clear hA hB))
    | (go_at_call 136
       first
       | (with_reducible refine (boolT_at 0 0 1 _ W3).mono ?_
          rintro e W4 ⟨qc3, rfl, hA, hB⟩
          have HAc3_4 := Lib.hid hA
          have HLp_c3 := Lib.hid HAp_3.out.bel.size
          have HAp_4 := Lib.hid (HAp_3.out.on hB)
          have HB4 := Lib.hid (HB3.out.trans (hB.mono HB3.out.size))
          clear hA hB)))
  go_ret
  exact ⟨qp, rfl, HAp_5.out, HB5.out⟩

/-- the request as a packet -/
def pCMF  : Pk := (addK (bare 0 32 16 .nilIface ⟨#[67, 111, 110, 116, 114, 111, 108]⟩) (prim 0 0 4 (strV ⟨#[50, 46, 49, 54, 46, 56, 52, 48, 46, 49, 46, 49, 49, 51, 55, 51, 48, 46, 51, 46, 52, 46, 50]⟩) (bytesOf ⟨#[50, 46, 49, 54, 46, 56, 52, 48, 46, 49, 46, 49, 49, 51, 55, 51, 48, 46, 51, 46, 52, 46, 50]⟩) ⟨#[67, 111, 110, 116, 114, 111, 108, 32, 84, 121, 112, 101, 32, 40, 41]⟩))
theorem pCMF_fine   : Fine (pCMF) 1000014 := (fine_add (fine_bare _ _ _ _ _ (by decide) (by decide) (by decide) (Or.inr rfl) (by decide) (by decide)) (fine_str (n := 1000000) _ _ _ _ _ (by decide) (by decide) (by decide) (Or.inl rfl) (by decide) (by decide) (by decide)) (by decide))
set_option maxHeartbeats 3200000 in
set_option maxRecDepth 100000 in
theorem enc_CMF   (r : Nat) (w : World)
    (hr : w.heap[r]? = some (.cells #[.bool false] 218 (0, 0))) :
    Calls Tryd.prog 156 #[.pointer (some ⟨r, 0, none⟩)] w fun e w' => ∃ q, e = .returned (.pointer (some ⟨q, 0, none⟩)) ∧ At w' w' w.heap.size q (pCMF) ∧ Below w.heap.size w w' := by
  have HR := Lib.hid hr
  have HT0 : Hid (Top (bare 0 32 16 .nilIface ⟨#[67, 111, 110, 116, 114, 111, 108]⟩) 0) := Lib.hid ((fine_bare _ _ _ _ _ (by decide) (by decide) (by decide) (Or.inr rfl) (by decide) (by decide))).1
  have HT1 : Hid (Top (prim 0 0 4 (strV ⟨#[50, 46, 49, 54, 46, 56, 52, 48, 46, 49, 46, 49, 49, 51, 55, 51, 48, 46, 51, 46, 52, 46, 50]⟩) (bytesOf ⟨#[50, 46, 49, 54, 46, 56, 52, 48, 46, 49, 46, 49, 49, 51, 55, 51, 48, 46, 51, 46, 52, 46, 50]⟩) ⟨#[67, 111, 110, 116, 114, 111, 108, 32, 84, 121, 112, 101, 32, 40, 41]⟩) 1000000) := Lib.hid ((fine_str (n := 1000000) _ _ _ _ _ (by decide) (by decide) (by decide) (Or.inl rfl) (by decide) (by decide) (by decide))).1
  have HT2 : Hid (Top (addK (bare 0 32 16 .nilIface ⟨#[67, 111, 110, 116, 114, 111, 108]⟩) (prim 0 0 4 (strV ⟨#[50, 46, 49, 54, 46, 56, 52, 48, 46, 49, 46, 49, 49, 51, 55, 51, 48, 46, 51, 46, 52, 46, 50]⟩) (bytesOf ⟨#[50, 46, 49, 54, 46, 56, 52, 48, 46, 49, 46, 49, 49, 51, 55, 51, 48, 46, 51, 46, 52, 46, 50]⟩) ⟨#[67, 111, 110, 116, 114, 111, 108, 32, 84, 121, 112, 101, 32, 40, 41]⟩)) 1000014) := Lib.hid ((fine_add (fine_bare _ _ _ _ _ (by decide) (by decide) (by decide) (Or.inr rfl) (by decide) (by decide)) (fine_str (n := 1000000) _ _ _ _ _ (by decide) (by decide) (by decide) (Or.inl rfl) (by decide) (by decide) (by decide)) (by decide))).1
  clear hr
  go_enter Tryd.func156, Tryd.ntmps156
  go_wp2_with (first
    | (go_at_call 87
       first
       | (with_reducible refine (encode_at 0 32 16 _ w).mono ?_
          rintro e W1 ⟨qp, rfl, hA, hB⟩
          have HAp_1 := Lib.hid hA
          have HZp : Hid (w.heap.size ≤ w.heap.size) := Lib.hid (Nat.le_refl _)
          have HB1 := Lib.hid (hB)
          clear hA hB))
    | (go_at_call 62
       first
       | (with_reducible refine (string_at 0 0 4 ⟨#[50, 46, 49, 54, 46, 56, 52, 48, 46, 49, 46, 49, 49, 51, 55, 51, 48, 46, 51, 46, 52, 46, 50]⟩ _ W1 (by decide)).mono ?_
          rintro e W2 ⟨qc1, rfl, hA, hB⟩
          have HAc1_2 := Lib.hid hA
          have HLp_c1 := Lib.hid HAp_1.out.bel.size
          have HAp_2 := Lib.hid (HAp_1.out.on hB)
          have HB2 := Lib.hid (HB1.out.trans (hB.mono HB1.out.size))
          clear hA hB))
    | (go_at_call 93
       first
       | (with_reducible refine (app_at HAp_2.out HAc1_2.out HLp_c1.out HT0.out HT1.out (by decide) (by decide)).mono ?_
          rintro e W3 ⟨⟨u3_, rfl⟩, hA, hB⟩
          have HAp_3 := Lib.hid hA
          have HB3 := Lib.hid (HB2.out.trans (hB.mono HZp.out))
          have c3_0 : W3.cell? ⟨r, 0, none⟩ = some (.bool false) := blk_cell (blk_below HR.out HB3.out) 0
          clear hA hB)))
  go_ret
  exact ⟨qp, rfl, HAp_3.out, HB3.out⟩

/-- the request as a packet -/
def pCMT  : Pk := (addK (addK (bare 0 32 16 .nilIface ⟨#[67, 111, 110, 116, 114, 111, 108]⟩) (prim 0 0 4 (strV ⟨#[50, 46, 49, 54, 46, 56, 52, 48, 46, 49, 46, 49, 49, 51, 55, 51, 48, 46, 51, 46, 52, 46, 50]⟩) (bytesOf ⟨#[50, 46, 49, 54, 46, 56, 52, 48, 46, 49, 46, 49, 49, 51, 55, 51, 48, 46, 51, 46, 52, 46, 50]⟩) ⟨#[67, 111, 110, 116, 114, 111, 108, 32, 84, 121, 112, 101, 32, 40, 41]⟩)) (prim 0 0 1 (.iface 4 (.bool true)) (whole 1) ⟨#[67, 114, 105, 116, 105, 99, 97, 108, 105, 116, 121]⟩))
theorem pCMT_fine   : Fine (pCMT) 1000036 := (fine_add (fine_add (fine_bare _ _ _ _ _ (by decide) (by decide) (by decide) (Or.inr rfl) (by decide) (by decide)) (fine_str (n := 1000000) _ _ _ _ _ (by decide) (by decide) (by decide) (Or.inl rfl) (by decide) (by decide) (by decide)) (by decide)) (fine_prim _ _ _ _ _ _ (by decide) (by decide) (by decide) (Or.inl rfl) (by decide) (by decide) (whole_len 1 (by decide))) (by decide))
set_option maxHeartbeats 3200000 in
set_option maxRecDepth 100000 in
theorem enc_CMT   (r : Nat) (w : World)
    (hr : w.heap[r]? = some (.cells #[.bool true] 218 (0, 0))) :
    Calls Tryd.prog 156 #[.pointer (some ⟨r, 0, none⟩)] w fun e w' => ∃ q, e = .returned (.pointer (some ⟨q, 0, none⟩)) ∧ At w' w' w.heap.size q (pCMT) ∧ Below w.heap.size w w' := by
  have HR := Lib.hid hr
  have HT0 : Hid (Top (bare 0 32 16 .nilIface ⟨#[67, 111, 110, 116, 114, 111, 108]⟩) 0) := Lib.hid ((fine_bare _ _ _ _ _ (by decide) (by decide) (by decide) (Or.inr rfl) (by decide) (by decide))).1
  have HT1 : Hid (Top (prim 0 0 4 (strV ⟨#[50, 46, 49, 54, 46, 56, 52, 48, 46, 49, 46, 49, 49, 51, 55, 51, 48, 46, 51, 46, 52, 46, 50]⟩) (bytesOf ⟨#[50, 46, 49, 54, 46, 56, 52, 48, 46, 49, 46, 49, 49, 51, 55, 51, 48, 46, 51, 46, 52, 46, 50]⟩) ⟨#[67, 111, 110, 116, 114, 111, 108, 32, 84, 121, 112, 101, 32, 40, 41]⟩) 1000000) := Lib.hid ((fine_str (n := 1000000) _ _ _ _ _ (by decide) (by decide) (by decide) (Or.inl rfl) (by decide) (by decide) (by decide))).1
  have HT2 : Hid (Top (addK (bare 0 32 16 .nilIface ⟨#[67, 111, 110, 116, 114, 111, 108]⟩) (prim 0 0 4 (strV ⟨#[50, 46, 49, 54, 46, 56, 52, 48, 46, 49, 46, 49, 49, 51, 55, 51, 48, 46, 51, 46, 52, 46, 50]⟩) (bytesOf ⟨#[50, 46, 49, 54, 46, 56, 52, 48, 46, 49, 46, 49, 49, 51, 55, 51, 48, 46, 51, 46, 52, 46, 50]⟩) ⟨#[67, 111, 110, 116, 114, 111, 108, 32, 84, 121, 112, 101, 32, 40, 41]⟩)) 1000014) := Lib.hid ((fine_add (fine_bare _ _ _ _ _ (by decide) (by decide) (by decide) (Or.inr rfl) (by decide) (by decide)) (fine_str (n := 1000000) _ _ _ _ _ (by decide) (by decide) (by decide) (Or.inl rfl) (by decide) (by decide) (by decide)) (by decide))).1
  have HT3 : Hid (Top (prim 0 0 1 (.iface 4 (.bool true)) (whole 1) ⟨#[67, 114, 105, 116, 105, 99, 97, 108, 105, 116, 121]⟩) 8) := Lib.hid ((fine_prim _ _ _ _ _ _ (by decide) (by decide) (by decide) (Or.inl rfl) (by decide) (by decide) (whole_len 1 (by decide)))).1
  have HT4 : Hid (Top (addK (addK (bare 0 32 16 .nilIface ⟨#[67, 111, 110, 116, 114, 111, 108]⟩) (prim 0 0 4 (strV ⟨#[50, 46, 49, 54, 46, 56, 52, 48, 46, 49, 46, 49, 49, 51, 55, 51, 48, 46, 51, 46, 52, 46, 50]⟩) (bytesOf ⟨#[50, 46, 49, 54, 46, 56, 52, 48, 46, 49, 46, 49, 49, 51, 55, 51, 48, 46, 51, 46, 52, 46, 50]⟩) ⟨#[67, 111, 110, 116, 114, 111, 108, 32, 84, 121, 112, 101, 32, 40, 41]⟩)) (prim 0 0 1 (.iface 4 (.bool true)) (whole 1) ⟨#[67, 114, 105, 116, 105, 99, 97, 108, 105, 116, 121]⟩)) 1000036) := Lib.hid ((fine_add (fine_add (fine_bare _ _ _ _ _ (by decide) (by decide) (by decide) (Or.inr rfl) (by decide) (by decide)) (fine_str (n := 1000000) _ _ _ _ _ (by decide) (by decide) (by decide) (Or.inl rfl) (by decide) (by decide) (by decide)) (by decide)) (fine_prim _ _ _ _ _ _ (by decide) (by decide) (by decide) (Or.inl rfl) (by decide) (by decide) (whole_len 1 (by decide))) (by decide))).1
  clear hr
  go_enter Tryd.func156, Tryd.ntmps156
  go_wp2_with (first
    | (go_at_call 87
       first
       | (with_reducible refine (encode_at 0 32 16 _ w).mono ?_
          rintro e W1 ⟨qp, rfl, hA, hB⟩
          have HAp_1 := Lib.hid hA
          have HZp : Hid (w.heap.size ≤ w.heap.size) := Lib.hid (Nat.le_refl _)
          have HB1 := Lib.hid (hB)
          clear hA hB))
    | (go_at_call 62
       first
       | (with_reducible refine (string_at 0 0 4 ⟨#[50, 46, 49, 54, 46, 56, 52, 48, 46, 49, 46, 49, 49, 51, 55, 51, 48, 46, 51, 46, 52, 46, 50]⟩ _ W1 (by decide)).mono ?_
          rintro e W2 ⟨qc1, rfl, hA, hB⟩
          have HAc1_2 := Lib.hid hA
          have HLp_c1 := Lib.hid HAp_1.out.bel.size
          have HAp_2 := Lib.hid (HAp_1.out.on hB)
          have HB2 := Lib.hid (HB1.out.trans (hB.mono HB1.out.size))
          clear hA hB))
    | (go_at_call 93
       first
       | (with_reducible refine (app_at HAp_2.out HAc1_2.out HLp_c1.out HT0.out HT1.out (by decide) (by decide)).mono ?_
          rintro e W3 ⟨⟨u3_, rfl⟩, hA, hB⟩
          have HAp_3 := Lib.hid hA
          have HB3 := Lib.hid (HB2.out.trans (hB.mono HZp.out))
          have c3_0 : W3.cell? ⟨r, 0, none⟩ = some (.bool true) := blk_cell (blk_below HR.out HB3.out) 0
          clear hA hB)
       | (with_reducible refine (app_at HAp_4.out HAc3_4.out HLp_c3.out HT2.out HT3.out (by decide) (by decide)).mono ?_
          rintro e W5 ⟨⟨u5_, rfl⟩, hA, hB⟩
          have HAp_5 := Lib.hid hA
          have HB5 := Lib.hid (HB4.out.trans (hB.mono HZp.out))
          have c5_0 : W5.cell? ⟨r, 0, none⟩ = some (.bool true) := blk_cell (blk_below HR.out HB5.out) 0
          clear hA hB))
    | (go_at_call 136
       first
       | (with_reducible refine (boolT_at 0 0 1 _ W3).mono ?_
          rintro e W4 ⟨qc3, rfl, hA, hB⟩
          have HAc3_4 := Lib.hid hA
          have HLp_c3 := Lib.hid HAp_3.out.bel.size
          have HAp_4 := Lib.hid (HAp_3.out.on hB)
          have HB4 := Lib.hid (HB3.out.trans (hB.mono HB3.out.size))
          clear hA hB)))
  go_ret
  exact ⟨qp, rfl, HAp_5.out, HB5.out⟩

end Go.Proofs.YtbmcpjkhnhbjdaaDoor.Ber
namespace Go.Proofs.YtbmcpjkhnhbjdaaDoor.Ber
open Go.RowKit Go.Proofs.YtbmcpjkhnhbjdaaDoorW.PrintWords Go.Proofs.YtbmcpjkhnhbjdaaDoor.Buf Go.Proofs.YtbmcpjkhnhbjdaaDoor.Pk Go.Proofs.YtbmcpjkhnhbjdaaDoor.Num Go.Proofs.YtbmcpjkhnhbjdaaDoor.Ident Go.Proofs.YtbmcpjkhnhbjdaaDoor.Tree Go.Proofs.YtbmcpjkhnhbjdaaDoor.PFnEncode
set_option linter.unusedVariables false
set_option linter.unusedSimpArgs false

mutual
/-- the packet that is built -/
def pkOf : S27 → Pk
  | ⟨a, b, c, d, l⟩ => ⟨a * 64, if c then 32 else 0, b, .nilIface, [], if c then bytesL (mirL l) else d, if c then pkL l else [], ⟨#[]⟩⟩
def pkL : List S27 → List Pk
  | [] => []
  | x :: xs => pkOf x :: pkL xs
end
theorem pkL_append (l m : List S27) : pkL (l ++ m) = pkL l ++ pkL m := by
  induction l with
  | nil => rfl
  | cons x xs ih => rw [List.cons_append, pkL, pkL, ih]; rfl
theorem pkL_length (l : List S27) : (pkL l).length = l.length := by
  induction l with
  | nil => rfl
  | cons x xs ih => rw [pkL, List.length_cons, List.length_cons, ih]

/-- a proper packet of this size at most -/
structure Fit (p : S27) (n : Nat) : Prop where
  a0 : 0 ≤ p.f0
  a3 : p.f0 ≤ 3
  b0 : 0 ≤ p.f1
  b1 : p.f1 < 268435456
  dat : p.f2 = true → p.f3 = []
  kid : p.f2 = false → p.f4 = []
  kids : ∀ k, k ∈ p.f4 → good (mir k) = true ∧ tsize (mir k) < n
  len : p.f3.length < n
  num : p.f4.length < n
  all : tsizeL (mirL p.f4) < n

theorem mirL_length (l : List S27) : (mirL l).length = l.length := by rw [mirL_eq, List.length_map]
theorem good_mem {l : List S27} (h : goodL (mirL l) = true) {k : S27} (hk : k ∈ l) : good (mir k) = true := by
  rw [mirL_eq, goodL_all, List.all_map] at h
  exact List.all_eq_true.1 h k hk
theorem tsize_mem : ∀ {l : List S27} {k : S27}, k ∈ l → tsize (mir k) ≤ tsizeL (mirL l)
  | x :: xs, k, h => by
    rw [mirL, tsizeL]
    rcases List.mem_cons.1 h with rfl | h
    · omega
    · have := tsize_mem h
      omega

theorem fit_of {p : S27} (h : good (mir p) = true) : Fit p (tsize (mir p)) := by
  obtain ⟨a, b, c, d, l⟩ := p
  rw [mir, good] at h
  simp only [Bool.and_eq_true, decide_eq_true_eq] at h
  obtain ⟨⟨⟨⟨⟨a0, a3⟩, b0⟩, b1⟩, hc⟩, hg⟩ := h
  rw [mir]
  have hl := len_le_tsB (mirL l)
  rw [mirL_length] at hl
  refine ⟨a0, a3, b0, b1, ?_, ?_, fun k hk => ⟨good_mem hg hk, ?_⟩, ?_, ?_, ?_⟩
  · rintro (rfl : c = true)
    rw [if_pos rfl] at hc
    exact List.eq_nil_of_length_eq_zero (by simpa using hc)
  · rintro (rfl : c = false)
    rw [if_neg (by decide)] at hc
    have : (mirL l).length = 0 := by simpa using hc
    exact List.eq_nil_of_length_eq_zero (by rwa [mirL_length] at this)
  · have h1 : tsize (mir k) ≤ tsizeL (mirL l) := tsize_mem (l := l) hk
    rw [tsize]; omega
  · show d.length < _
    rw [tsize]; omega
  · show l.length < _
    rw [tsize]; omega
  · show tsizeL (mirL l) < _
    rw [tsize]; omega

theorem pk_bytes {p : S27} (h : good (mir p) = true) : pkBytes p.f0 p.f1 p.f2 (pkOf p).data = bytesT (mir p) := by
  have f := fit_of h
  obtain ⟨a, b, c, d, l⟩ := p
  rw [mir, bytesT, pkOf, pkBytes]
  cases c with
  | true =>
    have : d = [] := f.dat rfl
    subst this
    simp
  | false =>
    have : l = [] := f.kid rfl
    subst this
    simp [mirL, bytesL]

theorem bytesL_small {l : List S27} (h : goodL (mirL l) = true) (hn : tsizeL (mirL l) < 1000000000) : (bytesL (mirL l)).length < 14000000000 := by
  have := bytesL_le _ h (by omega)
  omega
theorem good_take {l : List S27} (h : goodL (mirL l) = true) (k : Nat) : goodL (mirL (l.take k)) = true := by
  rw [mirL_eq, goodL_all, List.all_map] at h ⊢
  exact List.all_eq_true.2 (fun x hx => List.all_eq_true.1 h x (List.mem_of_mem_take hx))
theorem tsizeL_take (l : List S27) (k : Nat) : tsizeL (mirL (l.take k)) ≤ tsizeL (mirL l) := by
  have h : mirL l = mirL (l.take k) ++ mirL (l.drop k) := by rw [← mirL_append, List.take_append_drop]
  rw [h, tsizeL_append]
  omega
end Go.Proofs.YtbmcpjkhnhbjdaaDoor.Ber

namespace Go.Proofs.YtbmcpjkhnhbjdaaDoor.Ber
open Go.RowKit Go.Proofs.YtbmcpjkhnhbjdaaDoorW.PrintWords Go.Proofs.YtbmcpjkhnhbjdaaDoor.Buf Go.Proofs.YtbmcpjkhnhbjdaaDoor.Pk Go.Proofs.YtbmcpjkhnhbjdaaDoor.Num Go.Proofs.YtbmcpjkhnhbjdaaDoor.Ident Go.Proofs.YtbmcpjkhnhbjdaaDoor.Tree Go.Proofs.YtbmcpjkhnhbjdaaDoor.PFnEncode
set_option linter.unusedVariables false
set_option linter.unusedSimpArgs false

theorem and3 : ∀ n : Fin 4, Go.bits .and .i64 ((n : Nat) : Int) 3 = ((n : Nat) : Int) := by decide +kernel

theorem C_far {w : World} {A : Option Addr} {xs : List Int} {g : Nat} (h : B8.C w A xs.length xs) (hg : w.heap.size ≤ g) : ∀ a, A = some a → 1 ≤ xs.length → a.block ≠ g := by
  rintro a rfl h1 rfl
  rcases reads_cells h with ⟨h2, _⟩ | ⟨a', h2 | h2, hc⟩
  · cases h2
  · injection h2 with h2
    subst h2
    have := hc 0 (.int .u8 xs[0]) (by simp [nums])
    have h5 := World.block_lt_of_cell? w _ this
    have h6 : (a.add 0).block = a.block := by unfold Addr.add; split <;> rfl
    rw [h6] at h5
    omega
  · rw [h2] at h1; exact absurd h1 (by decide)

set_option maxHeartbeats 800000 in
set_option maxRecDepth 100000 in
theorem built_prim (a b : Int) (d : List Int) (A3 : Option Addr) (c3 : Nat) (v4 : Value) (w0 w : World) (a0 : 0 ≤ a) (a3 : a ≤ 3) (b0 : 0 ≤ b) (b1 : b < 268435456) (h3 : B8.C w0 A3 d.length d) (hd : d.length < 1000000000) (hb : Below w0.heap.size w0 w) :
    Calls Tryd.prog 79 #[.agg #[.int .i64 a, .int .i64 b, .bool false, .slice A3 d.length c3, v4]] w fun e w' => Made w ⟨a * 64, 0, b, .nilIface, [], d, [], ⟨#[]⟩⟩ e w' := by
  have e1 : Go.bits .and .i64 a 3 = a := by
    have e := and3 ⟨a.toNat, by omega⟩
    simp only [Int.toNat_of_nonneg a0] at e
    exact e
  have e2 : wrap64 (a * 64) = a * 64 := by unfold wrap64; omega
  have e3 : (a * 64) % 256 = a * 64 := by omega
  have e4 : IntKind.u64.wrap b = b := IntWalk.u64_in _ (by omega)
  have e5 : b % 18446744073709551616 = b := by omega
  go_enter Tryd.func79, Tryd.ntmps79
  go_wp2_with (first
    | (go_at_call 87
       obtain ⟨W0, hW0⟩ : ∃ W0, W0 = w.alloc (.cells #[.int .i64 a, .int .i64 b, .bool false, .slice A3 d.length c3, v4] 27) := ⟨_, rfl⟩
       rw [← hW0]
       have hb0 : Below w.heap.size w W0 := by rw [hW0]; exact below_alloc (Below.refl _ _) _
       have hx0 : W0.heap[w.heap.size]? = some (.cells #[.int .i64 a, .int .i64 b, .bool false, .slice A3 d.length c3, v4] 27 (0, 0)) := by rw [hW0]; exact blk_new _ _
       clear hW0
       refine (encode_nil (a * 64) 0 b ⟨#[]⟩ W0).mono ?_
       rintro e W1 ⟨q, rfl, hI1, hB1⟩
       obtain ⟨db, v, bv, cv, P1⟩ := parts_of hI1.bound
       have k2 : W1.cell? ⟨w.heap.size, 2, none⟩ = some (.bool false) := blk_cell (blk_below hx0 hB1) 2
       have k3 : W1.cell? ⟨w.heap.size, 3, none⟩ = some (.slice A3 d.length c3) := blk_cell (blk_below hx0 hB1) 3
       have k5 : W1.cell? ⟨q, 5, none⟩ = some (.pointer (some ⟨db, 0, none⟩)) := P1.cell 5
       have hB2 : Below w.heap.size w W1.drew := (hb0.trans (hB1.mono hb0.size)).drew
       have hC2 : B8.C W1.drew A3 d.length d := Kd.C_below (Kd.C_below h3 hb) hB2
       have P2 := P1.below (Below.refl _ W1).drew
       have HW2 := Lib.hid (write_row db _ [] d A3 c3 W1.drew P2.buf hC2 (C_far h3 (Nat.le_trans hb.size (Nat.le_trans hb0.size P1.led))) (by simp; omega))
       have HP2 := Lib.hid P2
       have HB2 := Lib.hid hB2
       have HS2 := Lib.hid hb0.size
       have HS3 : Hid (W0.heap.size ≤ W1.drew.heap.size) := Lib.hid hB1.size
       clear hb0 hx0 hI1 hB1 P1 hB2 hC2 P2))
  go_region_with (go_at_call 88; with_reducible refine HW2.out.mono ?_; rintro e W3 hw; obtain ⟨rfl, hO3, v3, hP3⟩ := HP2.out.wrote hw HS3.out; have HO3 := Lib.hid hO3; have HP3 := Lib.hid hP3; clear hw hO3 hP3)
  all_goals (
    go_wp2
    go_ret
    refine ⟨q, rfl, (HP3.out.okmono (fun _ _ => trivial)).pk.lower HS2.out, HB2.out.trans (HO3.out.below HB2.out.size (fun i hi => Nat.le_trans HS2.out hi.2.1))⟩)

theorem pkOf_cls (p : S27) : (pkOf p).cls = p.f0 * 64 := by cases p; rfl
theorem pkOf_typ (p : S27) : (pkOf p).typ = if p.f2 then 32 else 0 := by cases p; rfl
theorem pkOf_tag (p : S27) : (pkOf p).tag = p.f1 := by cases p; rfl
theorem pkOf_small {p : S27} (h : good (mir p) = true) (hn : tsize (mir p) ≤ 1000000) : (pkOf p).data.length < 1099511627776 := by
  have h1 := bytesT_le _ h (by omega)
  rw [← pk_bytes h] at h1
  simp only [pkBytes, List.length_append] at h1
  omega
/-- the packet after so many children -/
def upTo (a b : Int) (l : List S27) (k : Nat) : Pk := ⟨a * 64, 32, b, .nilIface, [], bytesL (mirL (l.take k)), pkL (l.take k), ⟨#[]⟩⟩

theorem upTo_step (a b : Int) {l : List S27} {k : Nat} (hk : k < l.length) {kid : S27} (hkid : kid = rd_T27 l (k : Int)) (hg : good (mir kid) = true) :
    ({ upTo a b l k with data := (upTo a b l k).data ++ pkBytes kid.f0 kid.f1 kid.f2 (pkOf kid).data, kids := (upTo a b l k).kids ++ [pkOf kid] } : Pk) = upTo a b l (k + 1) := by
  have ht : l.take (k + 1) = l.take k ++ [kid] := by
    rw [hkid, rd_T27, Int.toNat_natCast, List.getD_eq_getElem?_getD, List.getElem?_eq_getElem hk]
    exact List.take_succ_eq_append_getElem hk
  unfold upTo
  rw [ht, mirL_append, bytesL_append, pkL_append, pk_bytes hg]
  simp [mirL, bytesL, pkL]

theorem upTo_small (a b : Int) {l : List S27} (hg : goodL (mirL l) = true) (ht : tsizeL (mirL l) < 1000001) (k : Nat) : (upTo a b l k).data.length < 1099511627776 := by
  have h1 : (bytesL (mirL (l.take k))).length < 14000000000 := bytesL_small (good_take hg k) (by have := tsizeL_take l k; omega)
  show (bytesL (mirL (l.take k))).length < _
  omega
theorem upTo_kids (a b : Int) {l : List S27} (hl : l.length < 1000001) (k : Nat) : (upTo a b l k).kids.length < 1099511627776 := by
  rw [upTo]
  show (pkL (l.take k)).length < _
  rw [pkL_length, List.length_take]
  omega

/-- One more child. -/
theorem round_app {a b : Int} {l : List S27} {k : Nat} {kid : S27} {wr W5 W6 : World} {base q qc : Nat} (hgl : goodL (mirL l) = true) (hal : tsizeL (mirL l) < 1000001) (hll : l.length < 1000001) (kg : good (mir kid) = true) (kt : tsize (mir kid) ≤ 1000000)
    (hst : ({ upTo a b l k with data := (upTo a b l k).data ++ pkBytes kid.f0 kid.f1 kid.f2 (pkOf kid).data, kids := (upTo a b l k).kids ++ [pkOf kid] } : Pk) = upTo a b l (k + 1))
    (hI : IsPk wr base (fun _ => True) q (upTo a b l k)) (hbase : base ≤ wr.heap.size) (hb5 : Below wr.heap.size wr W5) (hIc : IsPk W6 W5.heap.size (fun _ => True) qc (pkOf kid)) (hB6 : Below W5.heap.size W5 W6) :
    Calls Tryd.prog 93 #[.pointer (some ⟨q, 0, none⟩), .pointer (some ⟨qc, 0, none⟩)] W6 fun e w' => (∃ u, e = .returned u) ∧ IsPk w' base (fun _ => True) q (upTo a b l (k + 1)) ∧ Below base W6 w' := by
  have kf := fit_of kg
  have hs5 := hb5.size
  have hs6 := hB6.size
  have hd1 := upTo_small a b hgl hal k
  have hd2 := upTo_kids a b hll k
  have hd3 := pkOf_small kg kt
  have hc1 := pkOf_cls kid
  have hc2 := pkOf_typ kid
  have hc3 := pkOf_tag kid
  obtain ⟨x, hx⟩ : ∃ x, x = upTo a b l k := ⟨_, rfl⟩
  obtain ⟨y, hy⟩ : ∃ y, y = pkOf kid := ⟨_, rfl⟩
  rw [← hx] at hst hI hd1 hd2
  rw [← hy] at hst hIc hd3 hc1 hc2 hc3
  clear hx hy
  obtain ⟨db, v, bv, cv, P6⟩ := parts_of ((hI.bound.below hb5).below hB6)
  obtain ⟨dq, vq, bq, cq, C6⟩ := parts_of (hIc.bound.lower (Nat.le_trans hbase hs5))
  refine (append_any kid.f0 kid.f1 kid.f2 kf.a0 kf.a3 kf.b0 kf.b1 x y hc1 hc2 hc3 hd3 hd1 hd2 W6 P6 C6 ?_ (fun j h1 => h1.2.2) (Nat.le_trans hbase (Nat.le_trans hs5 hs6)) (fun j h1 => h1.2.1)).mono ?_
  · intro j h1 h2
    have h3 := h1.2.1
    have h4 := h2.2.2
    omega
  · rintro e W7 ⟨hu, hO7, v7, cv7, hP7⟩
    have h7 := (hP7.okmono (ok' := fun _ => True) (fun _ _ => trivial)).pk
    rw [hst] at h7
    exact ⟨hu, h7, hO7.below (Nat.le_trans hbase (Nat.le_trans hs5 hs6)) (fun i hi => hi.2.1)⟩

end Go.Proofs.YtbmcpjkhnhbjdaaDoor.Ber

namespace Go.Proofs.YtbmcpjkhnhbjdaaDoor.Ber
open Go.RowKit Go.Proofs.YtbmcpjkhnhbjdaaDoorW.PrintWords Go.Proofs.YtbmcpjkhnhbjdaaDoor.Buf Go.Proofs.YtbmcpjkhnhbjdaaDoor.Pk Go.Proofs.YtbmcpjkhnhbjdaaDoor.Num Go.Proofs.YtbmcpjkhnhbjdaaDoor.Ident Go.Proofs.YtbmcpjkhnhbjdaaDoor.Tree Go.Proofs.YtbmcpjkhnhbjdaaDoor.PFnEncode
set_option linter.unusedVariables false
set_option linter.unusedSimpArgs false

set_option maxHeartbeats 400000 in
set_option maxRecDepth 100000 in
theorem built_any (w0 : World) : ∀ (n : Nat), n ≤ 1000000 → ∀ (p : S27) (A3 : Option Addr) (c3 : Nat) (A4 : Option Addr) (c4 : Nat) (w : World), good (mir p) = true → tsize (mir p) ≤ n → B8.C w0 A3 p.f3.length p.f3 → k27.C w0 A4 p.f4.length p.f4 → Below w0.heap.size w0 w →
    Calls Tryd.prog 79 #[.agg #[.int .i64 p.f0, .int .i64 p.f1, .bool p.f2, .slice A3 p.f3.length c3, .slice A4 p.f4.length c4]] w (Made w (pkOf p)) := by
  intro n
  induction n with
  | zero =>
    rintro _ ⟨a, b, c, d, l⟩ A3 c3 A4 c4 w hg ht
    rw [mir, tsize] at ht
    omega
  | succ n ih =>
    rintro hn p A3 c3 A4 c4 w hg ht h3 h4 hb
    have hf := fit_of hg
    obtain ⟨a, b, c, d, l⟩ := p
    cases c with
    | false =>
      have hl : l = [] := hf.kid rfl
      subst hl
      exact built_prim a b d A3 c3 _ w0 w hf.a0 hf.a3 hf.b0 hf.b1 h3 (by have := hf.len; simp only at this; omega) hb
    | true =>
      obtain ⟨a0, a3, b0, b1, -, -, hkids, -, hnum, hall⟩ := hf
      simp only at a0 a3 b0 b1 hkids hnum hall h3 h4 ⊢
      have hgl : goodL (mirL l) = true := by
        rw [mir, good] at hg
        simp only [Bool.and_eq_true] at hg
        exact hg.2
      have e1 : Go.bits .and .i64 a 3 = a := by
        have e := and3 ⟨a.toNat, by omega⟩
        simp only [Int.toNat_of_nonneg a0] at e
        exact e
      have e2 : wrap64 (a * 64) = a * 64 := by unfold wrap64; omega
      have e3 : (a * 64) % 256 = a * 64 := by omega
      have e4 : IntKind.u64.wrap b = b := IntWalk.u64_in _ (by omega)
      have e5 : b % 18446744073709551616 = b := by omega
      have H4 := Lib.hid h4
      have HB := Lib.hid hb
      have HKIDS := Lib.hid hkids
      have HGL := Lib.hid hgl
      have HIH := Lib.hid (ih (by omega))
      have hll : l.length < 1000001 := by omega
      have hal : tsizeL (mirL l) < 1000001 := by omega
      have htn : tsizeL (mirL l) ≤ n := by rw [mir, tsize] at ht; omega
      clear h3 h4 hkids hgl hg ht hnum hall hb ih
      obtain ⟨fin, hfin⟩ : ∃ fin, fin = pkOf ⟨a, b, true, d, l⟩ := ⟨_, rfl⟩
      rw [← hfin]
      have HF := Lib.hid hfin
      clear hfin
      go_enter Tryd.func79, Tryd.ntmps79
      go_wp2_with (first
        | (go_at_call 87
           obtain ⟨W0, hW0⟩ : ∃ W0, W0 = w.alloc (.cells #[.int .i64 a, .int .i64 b, .bool true, .slice A3 d.length c3, .slice A4 l.length c4] 27) := ⟨_, rfl⟩
           rw [← hW0]
           have hb0 : Below w.heap.size w W0 := by rw [hW0]; exact below_alloc (Below.refl _ _) _
           have hx0 : W0.heap[w.heap.size]? = some (.cells #[.int .i64 a, .int .i64 b, .bool true, .slice A3 d.length c3, .slice A4 l.length c4] 27 (0, 0)) := by rw [hW0]; exact blk_new _ _
           clear hW0
           refine (encode_nil (a * 64) 32 b ⟨#[]⟩ W0).mono ?_
           rintro e W1 ⟨q, rfl, hI1, hB1⟩
           have k2 : W1.cell? ⟨w.heap.size, 2, none⟩ = some (.bool true) := blk_cell (blk_below hx0 hB1) 2
           have k4 : W1.cell? ⟨w.heap.size, 4, none⟩ = some (.slice A4 l.length c4) := blk_cell (blk_below hx0 hB1) 4
           have HI1 := Lib.hid (hI1.lower hb0.size)
           have HB1 := Lib.hid (hb0.trans (hB1.mono hb0.size))
           clear hb0 hx0 hI1 hB1))
      go_loopw [33] (fun i wr => ∃ k : Nat, i = .int .i64 k ∧ k ≤ l.length ∧ Hid (IsPk wr w.heap.size (fun _ => True) q (upTo a b l k)) ∧ Hid (Below w.heap.size w wr)) (fun i _ => l.length - (intOf i).toNat)
      case atStart => exact ⟨0, rfl, Nat.zero_le _, HI1, HB1⟩
      case round =>
        obtain ⟨k, rfl, hk, HI, HBr⟩ := hrel
        clear e1 e2 e3 e4 e5
        by_cases hlt : k < l.length
        · have hBw : Below w0.heap.size w0 wr := HB.out.trans (HBr.out.mono HB.out.size)
          obtain ⟨ad, A3', c3', A4', c4', rfl, e0', e1', e2', e3', e4', m3, n3, m4, n4⟩ := at_T27 H4.out (k : Int) (by omega) (by omega)
          rw [Int.toNat_natCast] at e0' e1' e2' e3' e4'
          obtain ⟨kid, hkid⟩ : ∃ kid, kid = rd_T27 l (k : Int) := ⟨_, rfl⟩
          rw [← hkid] at e0' e1' e2' e3' e4' m3 n3 m4 n4
          have hmem : kid ∈ l := by
            rw [hkid, rd_T27, Int.toNat_natCast, List.getD_eq_getElem?_getD, List.getElem?_eq_getElem hlt]
            exact List.getElem_mem hlt
          obtain ⟨kg, kt⟩ := HKIDS.out kid hmem
          rw [mir, tsize] at kt
          have kf := fit_of kg
          have k1t : tsize (mir kid) ≤ 1000000 := by have := tsize_mem (l := l) hmem; omega
          replace e0' := (hBw.cell (World.block_lt_of_cell? w0 _ e0')).trans e0'
          replace e1' := (hBw.cell (World.block_lt_of_cell? w0 _ e1')).trans e1'
          replace e2' := (hBw.cell (World.block_lt_of_cell? w0 _ e2')).trans e2'
          replace e3' := (hBw.cell (World.block_lt_of_cell? w0 _ e3')).trans e3'
          replace e4' := (hBw.cell (World.block_lt_of_cell? w0 _ e4')).trans e4'
          have hb5 : Below wr.heap.size wr (wr.alloc (.cells #[.int .i64 kid.f0, .int .i64 kid.f1, .bool kid.f2, .slice A3' kid.f3.length c3', .slice A4' kid.f4.length c4'] 27)) := below_alloc (Below.refl _ _) _
          have HC := Lib.hid (HIH.out kid A3' c3' A4' c4' _ kg (by have := tsize_mem (l := l) hmem; omega) n3 n4 (hBw.trans (hb5.mono hBw.size)))
          have HSTEP := Lib.hid (upTo_step a b hlt hkid kg)
          have HB5 := Lib.hid hb5
          have HKF := Lib.hid kf
          have HKG := Lib.hid kg
          clear hkid hmem kt kf hBw hb5 kg
          go_wp2_with (first
            | (go_at_call 79
               with_reducible refine HC.out.mono ?_
               rintro e W6 ⟨qc, rfl, hIc, hB6⟩
               have HA := Lib.hid (round_app HGL.out hal hll HKG.out k1t HSTEP.out HI.out HBr.out.size HB5.out hIc hB6)
               have HB6 := Lib.hid (HBr.out.trans ((HB5.out.mono HBr.out.size).trans (hB6.mono (Nat.le_trans HBr.out.size HB5.out.size))))
               clear hIc hB6 HC)
            | (go_at_call 93
               with_reducible refine HA.out.mono ?_
               rintro e W7 ⟨⟨u, rfl⟩, hI7, hB7⟩
               have HI7 := Lib.hid hI7
               have HB7 := Lib.hid (HB6.out.trans hB7)
               clear hI7 hB7 HA HB6))
          exact ⟨⟨k + 1, rfl, hlt, HI7, HB7⟩, by
            show l.length - ((k : Int) + 1).toNat < l.length - ((k : Int)).toNat
            rw [show ((k : Int) + 1).toNat = k + 1 from rfl, Int.toNat_natCast]
            omega⟩
        · obtain rfl : k = l.length := by omega
          go_wp2
          go_ret
          refine ⟨q, rfl, ?_, HBr.out⟩
          have := HI.out
          rw [HF.out, pkOf, if_pos rfl, if_pos rfl, if_pos rfl]
          rw [upTo, List.take_length] at this
          exact this
end Go.Proofs.YtbmcpjkhnhbjdaaDoor.Ber
namespace Go.Proofs.YtbmcpjkhnhbjdaaDoor.Ber
open Go.RowKit Go.Proofs.YtbmcpjkhnhbjdaaDoorW.PrintWords Go.Proofs.YtbmcpjkhnhbjdaaDoor.PFnEncode Go.Proofs.YtbmcpjkhnhbjdaaDoorW.PrintLast Go.Proofs.YtbmcpjkhnhbjdaaDoor.Tree Go.Proofs.YtbmcpjkhnhbjdaaDoor.Buf Go.Proofs.YtbmcpjkhnhbjdaaDoor.Pk Go.Proofs.YtbmcpjkhnhbjdaaDoor.Within Go.Proofs.YtbmcpjkhnhbjdaaDoor.Num
set_option linter.unusedVariables false
set_option linter.unusedSimpArgs false

theorem int64_at (cls typ tag n : Int) (desc : ByteArray) (w : World) (hn : -9223372036854775808 ≤ n ∧ n ≤ 9223372036854775807) :
    Calls Tryd.prog 103 #[.int .u8 cls, .int .u8 typ, .int .u64 tag, .iface 2 (.int .i64 n), .string desc] w fun e w' => ∃ q, e = .returned (.pointer (some ⟨q, 0, none⟩)) ∧ At w' w' w.heap.size q (prim cls typ tag (.iface 2 (.int .i64 n)) (whole n) desc) ∧ Below w.heap.size w w' :=
  (newInt_i64 cls typ tag n desc w hn).mono fun _ _ h => h.at
/-- the request as a packet -/
def pCP (n : Int) (A : Option Addr) (cc : Nat) (ck : List Int) : Pk := (addK (addK (bare 0 32 16 .nilIface ⟨#[67, 111, 110, 116, 114, 111, 108]⟩) (prim 0 0 4 (strV ⟨#[49, 46, 50, 46, 56, 52, 48, 46, 49, 49, 51, 53, 53, 54, 46, 49, 46, 52, 46, 51, 49, 57]⟩) (bytesOf ⟨#[49, 46, 50, 46, 56, 52, 48, 46, 49, 49, 51, 53, 53, 54, 46, 49, 46, 52, 46, 51, 49, 57]⟩) ⟨#[67, 111, 110, 116, 114, 111, 108, 32, 84, 121, 112, 101, 32, 40, 41]⟩)) (addK (bare 0 0 4 .nilIface ⟨#[67, 111, 110, 116, 114, 111, 108, 32, 86, 97, 108, 117, 101, 32, 40, 80, 97, 103, 105, 110, 103, 41]⟩) (addK (addK (bare 0 32 16 .nilIface ⟨#[83, 101, 97, 114, 99, 104, 32, 67, 111, 110, 116, 114, 111, 108, 32, 86, 97, 108, 117, 101]⟩) (prim 0 0 2 (.iface 2 (.int .i64 n)) (whole n) ⟨#[80, 97, 103, 105, 110, 103, 32, 83, 105, 122, 101]⟩)) (prim 0 0 4 (.iface 24 (.slice A ck.length cc)) ck ⟨#[67, 111, 111, 107, 105, 101]⟩))))
theorem pCP_fine (n : Int) (A : Option Addr) (cc : Nat) (ck : List Int) (h0 : 0 ≤ n) (h1 : n < 2147483648) (hck : ck.length ≤ 1000000) : Fine (pCP n A cc ck) 2000078 :=
  have hn8 : -9223372036854775808 ≤ n ∧ n ≤ 9223372036854775807 := ⟨by omega, by omega⟩
  (fine_add (fine_add (fine_bare _ _ _ _ _ (by decide) (by decide) (by decide) (Or.inr rfl) (by decide) (by decide)) (fine_str (n := 1000000) _ _ _ _ _ (by decide) (by decide) (by decide) (Or.inl rfl) (by decide) (by decide) (by decide)) (by decide)) (fine_add (fine_bare _ _ _ _ _ (by decide) (by decide) (by decide) (Or.inl rfl) (by decide) (by decide)) (fine_add (fine_add (fine_bare _ _ _ _ _ (by decide) (by decide) (by decide) (Or.inr rfl) (by decide) (by decide)) (fine_prim _ _ _ _ _ _ (by decide) (by decide) (by decide) (Or.inl rfl) (by decide) (by decide) (whole_len n hn8)) (by decide)) (fine_prim _ _ _ _ _ _ (by decide) (by decide) (by decide) (Or.inl rfl) (by decide) (by decide) hck) (by decide)) (by decide)) (by decide))
set_option maxHeartbeats 3200000 in
set_option maxRecDepth 100000 in
theorem enc_CP (n : Int) (A : Option Addr) (cc : Nat) (ck : List Int) (h0 : 0 ≤ n) (h1 : n < 2147483648) (hck : ck.length ≤ 1000000) (r : Nat) (w : World) (hrow : B8.C w A ck.length ck)
    (hr : w.heap[r]? = some (.cells #[.int .u32 n, .slice A ck.length cc] 216 (0, 0))) :
    Calls Tryd.prog 154 #[.pointer (some ⟨r, 0, none⟩)] w fun e w' => ∃ q, e = .returned (.pointer (some ⟨q, 0, none⟩)) ∧ At w' w' w.heap.size q (pCP n A cc ck) ∧ Below w.heap.size w w' := by
  have hn8 : -9223372036854775808 ≤ n ∧ n ≤ 9223372036854775807 := ⟨by omega, by omega⟩
  have en : IntKind.i64.wrap n = n := IntWalk.i64_in _ (by omega)
  have HROW := Lib.hid hrow
  have HLEN := Lib.hid hck
  have HN8 := Lib.hid hn8
  have HR := Lib.hid hr
  have HT0 : Hid (Top (bare 0 32 16 .nilIface ⟨#[67, 111, 110, 116, 114, 111, 108]⟩) 0) := Lib.hid ((fine_bare _ _ _ _ _ (by decide) (by decide) (by decide) (Or.inr rfl) (by decide) (by decide))).1
  have HT1 : Hid (Top (prim 0 0 4 (strV ⟨#[49, 46, 50, 46, 56, 52, 48, 46, 49, 49, 51, 53, 53, 54, 46, 49, 46, 52, 46, 51, 49, 57]⟩) (bytesOf ⟨#[49, 46, 50, 46, 56, 52, 48, 46, 49, 49, 51, 53, 53, 54, 46, 49, 46, 52, 46, 51, 49, 57]⟩) ⟨#[67, 111, 110, 116, 114, 111, 108, 32, 84, 121, 112, 101, 32, 40, 41]⟩) 1000000) := Lib.hid ((fine_str (n := 1000000) _ _ _ _ _ (by decide) (by decide) (by decide) (Or.inl rfl) (by decide) (by decide) (by decide))).1
  have HT2 : Hid (Top (addK (bare 0 32 16 .nilIface ⟨#[67, 111, 110, 116, 114, 111, 108]⟩) (prim 0 0 4 (strV ⟨#[49, 46, 50, 46, 56, 52, 48, 46, 49, 49, 51, 53, 53, 54, 46, 49, 46, 52, 46, 51, 49, 57]⟩) (bytesOf ⟨#[49, 46, 50, 46, 56, 52, 48, 46, 49, 49, 51, 53, 53, 54, 46, 49, 46, 52, 46, 51, 49, 57]⟩) ⟨#[67, 111, 110, 116, 114, 111, 108, 32, 84, 121, 112, 101, 32, 40, 41]⟩)) 1000014) := Lib.hid ((fine_add (fine_bare _ _ _ _ _ (by decide) (by decide) (by decide) (Or.inr rfl) (by decide) (by decide)) (fine_str (n := 1000000) _ _ _ _ _ (by decide) (by decide) (by decide) (Or.inl rfl) (by decide) (by decide) (by decide)) (by decide))).1
  have HT3 : Hid (Top (bare 0 0 4 .nilIface ⟨#[67, 111, 110, 116, 114, 111, 108, 32, 86, 97, 108, 117, 101, 32, 40, 80, 97, 103, 105, 110, 103, 41]⟩) 0) := Lib.hid ((fine_bare _ _ _ _ _ (by decide) (by decide) (by decide) (Or.inl rfl) (by decide) (by decide))).1
  have HT4 : Hid (Top (bare 0 32 16 .nilIface ⟨#[83, 101, 97, 114, 99, 104, 32, 67, 111, 110, 116, 114, 111, 108, 32, 86, 97, 108, 117, 101]⟩) 0) := Lib.hid ((fine_bare _ _ _ _ _ (by decide) (by decide) (by decide) (Or.inr rfl) (by decide) (by decide))).1
  have HT5 : Hid (Top (prim 0 0 2 (.iface 2 (.int .i64 n)) (whole n) ⟨#[80, 97, 103, 105, 110, 103, 32, 83, 105, 122, 101]⟩) 8) := Lib.hid ((fine_prim _ _ _ _ _ _ (by decide) (by decide) (by decide) (Or.inl rfl) (by decide) (by decide) (whole_len n hn8))).1
  have HT6 : Hid (Top (addK (bare 0 32 16 .nilIface ⟨#[83, 101, 97, 114, 99, 104, 32, 67, 111, 110, 116, 114, 111, 108, 32, 86, 97, 108, 117, 101]⟩) (prim 0 0 2 (.iface 2 (.int .i64 n)) (whole n) ⟨#[80, 97, 103, 105, 110, 103, 32, 83, 105, 122, 101]⟩)) 22) := Lib.hid ((fine_add (fine_bare _ _ _ _ _ (by decide) (by decide) (by decide) (Or.inr rfl) (by decide) (by decide)) (fine_prim _ _ _ _ _ _ (by decide) (by decide) (by decide) (Or.inl rfl) (by decide) (by decide) (whole_len n hn8)) (by decide))).1
  have HT7 : Hid (Top (bare 0 0 4 .nilIface ⟨#[67, 111, 111, 107, 105, 101]⟩) 0) := Lib.hid ((fine_bare _ _ _ _ _ (by decide) (by decide) (by decide) (Or.inl rfl) (by decide) (by decide))).1
  have HT8 : Hid (Top (prim 0 0 4 (.iface 24 (.slice A ck.length cc)) ck ⟨#[67, 111, 111, 107, 105, 101]⟩) 1000000) := Lib.hid ((fine_prim _ _ _ _ _ _ (by decide) (by decide) (by decide) (Or.inl rfl) (by decide) (by decide) hck)).1
  have HT9 : Hid (Top (addK (addK (bare 0 32 16 .nilIface ⟨#[83, 101, 97, 114, 99, 104, 32, 67, 111, 110, 116, 114, 111, 108, 32, 86, 97, 108, 117, 101]⟩) (prim 0 0 2 (.iface 2 (.int .i64 n)) (whole n) ⟨#[80, 97, 103, 105, 110, 103, 32, 83, 105, 122, 101]⟩)) (prim 0 0 4 (.iface 24 (.slice A ck.length cc)) ck ⟨#[67, 111, 111, 107, 105, 101]⟩)) 1000036) := Lib.hid ((fine_add (fine_add (fine_bare _ _ _ _ _ (by decide) (by decide) (by decide) (Or.inr rfl) (by decide) (by decide)) (fine_prim _ _ _ _ _ _ (by decide) (by decide) (by decide) (Or.inl rfl) (by decide) (by decide) (whole_len n hn8)) (by decide)) (fine_prim _ _ _ _ _ _ (by decide) (by decide) (by decide) (Or.inl rfl) (by decide) (by decide) hck) (by decide))).1
  have HT10 : Hid (Top (addK (bare 0 0 4 .nilIface ⟨#[67, 111, 110, 116, 114, 111, 108, 32, 86, 97, 108, 117, 101, 32, 40, 80, 97, 103, 105, 110, 103, 41]⟩) (addK (addK (bare 0 32 16 .nilIface ⟨#[83, 101, 97, 114, 99, 104, 32, 67, 111, 110, 116, 114, 111, 108, 32, 86, 97, 108, 117, 101]⟩) (prim 0 0 2 (.iface 2 (.int .i64 n)) (whole n) ⟨#[80, 97, 103, 105, 110, 103, 32, 83, 105, 122, 101]⟩)) (prim 0 0 4 (.iface 24 (.slice A ck.length cc)) ck ⟨#[67, 111, 111, 107, 105, 101]⟩))) 1000050) := Lib.hid ((fine_add (fine_bare _ _ _ _ _ (by decide) (by decide) (by decide) (Or.inl rfl) (by decide) (by decide)) (fine_add (fine_add (fine_bare _ _ _ _ _ (by decide) (by decide) (by decide) (Or.inr rfl) (by decide) (by decide)) (fine_prim _ _ _ _ _ _ (by decide) (by decide) (by decide) (Or.inl rfl) (by decide) (by decide) (whole_len n hn8)) (by decide)) (fine_prim _ _ _ _ _ _ (by decide) (by decide) (by decide) (Or.inl rfl) (by decide) (by decide) hck) (by decide)) (by decide))).1
  have HT11 : Hid (Top (addK (addK (bare 0 32 16 .nilIface ⟨#[67, 111, 110, 116, 114, 111, 108]⟩) (prim 0 0 4 (strV ⟨#[49, 46, 50, 46, 56, 52, 48, 46, 49, 49, 51, 53, 53, 54, 46, 49, 46, 52, 46, 51, 49, 57]⟩) (bytesOf ⟨#[49, 46, 50, 46, 56, 52, 48, 46, 49, 49, 51, 53, 53, 54, 46, 49, 46, 52, 46, 51, 49, 57]⟩) ⟨#[67, 111, 110, 116, 114, 111, 108, 32, 84, 121, 112, 101, 32, 40, 41]⟩)) (addK (bare 0 0 4 .nilIface ⟨#[67, 111, 110, 116, 114, 111, 108, 32, 86, 97, 108, 117, 101, 32, 40, 80, 97, 103, 105, 110, 103, 41]⟩) (addK (addK (bare 0 32 16 .nilIface ⟨#[83, 101, 97, 114, 99, 104, 32, 67, 111, 110, 116, 114, 111, 108, 32, 86, 97, 108, 117, 101]⟩) (prim 0 0 2 (.iface 2 (.int .i64 n)) (whole n) ⟨#[80, 97, 103, 105, 110, 103, 32, 83, 105, 122, 101]⟩)) (prim 0 0 4 (.iface 24 (.slice A ck.length cc)) ck ⟨#[67, 111, 111, 107, 105, 101]⟩)))) 2000078) := Lib.hid ((fine_add (fine_add (fine_bare _ _ _ _ _ (by decide) (by decide) (by decide) (Or.inr rfl) (by decide) (by decide)) (fine_str (n := 1000000) _ _ _ _ _ (by decide) (by decide) (by decide) (Or.inl rfl) (by decide) (by decide) (by decide)) (by decide)) (fine_add (fine_bare _ _ _ _ _ (by decide) (by decide) (by decide) (Or.inl rfl) (by decide) (by decide)) (fine_add (fine_add (fine_bare _ _ _ _ _ (by decide) (by decide) (by decide) (Or.inr rfl) (by decide) (by decide)) (fine_prim _ _ _ _ _ _ (by decide) (by decide) (by decide) (Or.inl rfl) (by decide) (by decide) (whole_len n hn8)) (by decide)) (fine_prim _ _ _ _ _ _ (by decide) (by decide) (by decide) (Or.inl rfl) (by decide) (by decide) hck) (by decide)) (by decide)) (by decide))).1
  clear hr hrow hck hn8
  go_enter Tryd.func154, Tryd.ntmps154
  go_wp2_with (first
    | (go_at_call 87
       first
       | (with_reducible refine (encode_at 0 32 16 _ w).mono ?_
          rintro e W1 ⟨qp, rfl, hA, hB⟩
          have HAp_1 := Lib.hid hA
          have HZp : Hid (w.heap.size ≤ w.heap.size) := Lib.hid (Nat.le_refl _)
          have HB1 := Lib.hid (hB)
          clear hA hB)
       | (with_reducible refine (encode_at 0 0 4 _ W3).mono ?_
          rintro e W4 ⟨qv, rfl, hA, hB⟩
          have HAv_4 := Lib.hid hA
          have HLp_v := Lib.hid HAp_3.out.bel.size
          have HZv : Hid (w.heap.size ≤ W3.heap.size) := Lib.hid (HB3.out.size)
          have HAp_4 := Lib.hid (HAp_3.out.on hB)
          have HB4 := Lib.hid (HB3.out.trans (hB.mono HB3.out.size))
          clear hA hB)
       | (with_reducible refine (encode_at 0 32 16 _ W4).mono ?_
          rintro e W5 ⟨qs, rfl, hA, hB⟩
          have HAs_5 := Lib.hid hA
          have HLp_s := Lib.hid HAp_4.out.bel.size
          have HLv_s := Lib.hid HAv_4.out.bel.size
          have HZs : Hid (w.heap.size ≤ W4.heap.size) := Lib.hid (HB4.out.size)
          have HAp_5 := Lib.hid (HAp_4.out.on hB)
          have HAv_5 := Lib.hid (HAv_4.out.on hB)
          have HB5 := Lib.hid (HB4.out.trans (hB.mono HB4.out.size))
          have c5_0 : W5.cell? ⟨r, 0, none⟩ = some (.int .u32 n) := blk_cell (blk_below HR.out HB5.out) 0
          clear hA hB)
       | (with_reducible refine (encode_at 0 0 4 _ W7).mono ?_
          rintro e W8 ⟨qc, rfl, hA, hB⟩
          have HAc_8 := Lib.hid hA
          have HLp_c := Lib.hid HAp_7.out.bel.size
          have HLv_c := Lib.hid HAv_7.out.bel.size
          have HLs_c := Lib.hid HAs_7.out.bel.size
          have HZc : Hid (w.heap.size ≤ W7.heap.size) := Lib.hid (HB7.out.size)
          have HAp_8 := Lib.hid (HAp_7.out.on hB)
          have HAv_8 := Lib.hid (HAv_7.out.on hB)
          have HAs_8 := Lib.hid (HAs_7.out.on hB)
          have HB8 := Lib.hid (HB7.out.trans (hB.mono HB7.out.size))
          have c8_1 : W8.cell? ⟨r, 1, none⟩ = some (.slice A ck.length cc) := blk_cell (blk_below HR.out HB8.out) 1
          obtain ⟨db, v9, bv, cv, P⟩ := parts_of (hA.is.bound.below hA.bel)
          obtain ⟨P2, ho2⟩ := P.setVal (.iface 24 (.slice A ck.length cc)) rfl
          have c3 : W8.cell? ⟨qc, 3, none⟩ = some .nilIface := P.cell 3
          have f3 := P.frozen 3
          have c5 : (W8.setCell ⟨qc, 3, none⟩ (.iface 24 (.slice A ck.length cc))).cell? ⟨qc, 5, none⟩ = some (.pointer (some ⟨db, 0, none⟩)) := P2.cell 5
          have hB2 : Below W7.heap.size W8 (W8.setCell ⟨qc, 3, none⟩ (.iface 24 (.slice A ck.length cc))) := Below.setCell (Below.refl _ _) (p := ⟨qc, 3, none⟩) P.leb _
          have hB3 : Below w.heap.size w (W8.setCell ⟨qc, 3, none⟩ (.iface 24 (.slice A ck.length cc))) := HB8.out.trans (hB2.mono HZc.out)
          have cr : (W8.setCell ⟨qc, 3, none⟩ (.iface 24 (.slice A ck.length cc))).cell? ⟨r, 1, none⟩ = some (.slice A ck.length cc) := blk_cell (blk_below HR.out hB3) 1
          have P3 := P2.below (Below.refl _ (W8.setCell ⟨qc, 3, none⟩ (.iface 24 (.slice A ck.length cc)))).drew
          have HC3 : Hid (B8.C (W8.setCell ⟨qc, 3, none⟩ (.iface 24 (.slice A ck.length cc))).drew A ck.length ck) := Lib.hid (Kd.C_below HROW.out hB3.drew)
          have HW3 := Lib.hid ((write_row db _ [] _ _ cc (W8.setCell ⟨qc, 3, none⟩ (.iface 24 (.slice A ck.length cc))).drew P3.buf HC3.out (C_far HROW.out (Nat.le_trans HZc.out P3.led)) (by have := HLEN.out; simp; omega)).mono (fun _ _ h_ => P3.wrote h_ (Nat.le_trans hB.size hB2.size)))
          have HP3 := Lib.hid P3
          have HB2d := Lib.hid hB2.drew
          have HS3 : Hid (W7.heap.size ≤ (W8.setCell ⟨qc, 3, none⟩ (.iface 24 (.slice A ck.length cc))).drew.heap.size) := Lib.hid (Nat.le_trans hB.size hB2.size)
          clear hA hB P P2 P3 hB2 hB3 ho2))
    | (go_at_call 62
       first
       | (with_reducible refine (string_at 0 0 4 ⟨#[49, 46, 50, 46, 56, 52, 48, 46, 49, 49, 51, 53, 53, 54, 46, 49, 46, 52, 46, 51, 49, 57]⟩ _ W1 (by decide)).mono ?_
          rintro e W2 ⟨qc1, rfl, hA, hB⟩
          have HAc1_2 := Lib.hid hA
          have HLp_c1 := Lib.hid HAp_1.out.bel.size
          have HAp_2 := Lib.hid (HAp_1.out.on hB)
          have HB2 := Lib.hid (HB1.out.trans (hB.mono HB1.out.size))
          clear hA hB))
    | (go_at_call 93
       first
       | (with_reducible refine (app_at HAp_2.out HAc1_2.out HLp_c1.out HT0.out HT1.out (by decide) (by decide)).mono ?_
          rintro e W3 ⟨⟨u3_, rfl⟩, hA, hB⟩
          have HAp_3 := Lib.hid hA
          have HB3 := Lib.hid (HB2.out.trans (hB.mono HZp.out))
          clear hA hB)
       | (with_reducible refine (app_at HAs_6.out HAc5_6.out HLs_c5.out HT4.out HT5.out (by decide) (by decide)).mono ?_
          rintro e W7 ⟨⟨u7_, rfl⟩, hA, hB⟩
          have HAs_7 := Lib.hid hA
          have HAp_7 := Lib.hid (HAp_6.out.go hB HLp_s.out)
          have HAv_7 := Lib.hid (HAv_6.out.go hB HLv_s.out)
          have HB7 := Lib.hid (HB6.out.trans (hB.mono HZs.out))
          clear hA hB))
    | (go_at_call 103
       first
       | (with_reducible refine (int64_at 0 0 2 n _ W5 HN8.out).mono ?_
          rintro e W6 ⟨qc5, rfl, hA, hB⟩
          have HAc5_6 := Lib.hid hA
          have HLs_c5 := Lib.hid HAs_5.out.bel.size
          have HAp_6 := Lib.hid (HAp_5.out.on hB)
          have HAv_6 := Lib.hid (HAv_5.out.on hB)
          have HAs_6 := Lib.hid (HAs_5.out.on hB)
          have HB6 := Lib.hid (HB5.out.trans (hB.mono HB5.out.size))
          clear hA hB)))
  refine start_ (n := 9) (S := fun w' => w'.cell? ⟨qc, 5, none⟩ = some (.pointer (some ⟨db, 0, none⟩)) ∧ w'.cell? ⟨r, 1, none⟩ = some (.slice A ck.length cc)) (ds := [8]) #[nN,nN,nN,nN,nN,nN,nN,nN,nN] (by kernel_rfl) rfl rfl ⟨c5, cr⟩ (fun hHeld => ?_)
  refine pure_ (i := 0) (N := some 31) (v := ?_) (a' := ?_) #[yY,nN,nN,nN,nN,nN,nN,nN,nN] rfl rfl (by kernel_rfl) (fun _ _ _ h => h) (Or.inl ⟨by rfl, ?_⟩) ?_ ?_
  rotate_left
  · intro w'
    go_simp
    with_reducible rfl
  rotate_left
  · simp only [Act.put, List.setIfInBounds_toArray, List.set_cons_zero, List.set_cons_succ, i64_w, i32_w]
    rfl
  refine pure_ (i := 1) (N := some 32) (v := ?_) (a' := ?_) #[yY,yY,nN,nN,nN,nN,nN,nN,nN] rfl rfl (by kernel_rfl) (fun _ _ _ h => h) (Or.inl ⟨by rfl, ?_⟩) ?_ ?_
  rotate_left
  · intro w'
    go_simp
    with_reducible rfl
  rotate_left
  · simp only [Act.put, List.setIfInBounds_toArray, List.set_cons_zero, List.set_cons_succ, i64_w, i32_w]
    rfl
  refine pure_ (i := 2) (N := some 33) (v := ?_) (a' := ?_) #[yY,yY,yY,nN,nN,nN,nN,nN,nN] rfl rfl (by kernel_rfl) (fun _ _ _ h => h) (Or.inl ⟨by rfl, ?_⟩) ?_ ?_
  rotate_left
  · intro w'
    go_simp
    with_reducible rfl
  rotate_left
  · simp only [Act.put, List.setIfInBounds_toArray, List.set_cons_zero, List.set_cons_succ, i64_w, i32_w]
    rfl
  refine pure_ (i := 4) (N := some 35) (v := ?_) (a' := ?_) #[yY,yY,yY,nN,yY,nN,nN,nN,nN] rfl rfl (by kernel_rfl) (fun _ _ _ h => h) (Or.inl ⟨by rfl, ?_⟩) ?_ ?_
  rotate_left
  · intro w'
    go_simp
    with_reducible rfl
  rotate_left
  · simp only [Act.put, List.setIfInBounds_toArray, List.set_cons_zero, List.set_cons_succ, i64_w, i32_w]
    rfl
  refine pure_ (i := 5) (N := some 36) (v := ?_) (a' := ?_) #[yY,yY,yY,nN,yY,yY,nN,nN,nN] rfl rfl (by kernel_rfl) (fun _ _ _ h => h) (Or.inl ⟨by rfl, ?_⟩) ?_ ?_
  rotate_left
  · intro w'
    go_simp
    with_reducible rfl
  rotate_left
  · simp only [Act.put, List.setIfInBounds_toArray, List.set_cons_zero, List.set_cons_succ, i64_w, i32_w]
    rfl
  refine pure_ (i := 6) (N := some 37) (v := ?_) (a' := ?_) #[yY,yY,yY,nN,yY,yY,yY,nN,nN] rfl rfl (by kernel_rfl) (fun _ _ _ h => h) (Or.inl ⟨by rfl, ?_⟩) ?_ ?_
  rotate_left
  · intro w'
    go_simp
    with_reducible rfl
  rotate_left
  · simp only [Act.put, List.setIfInBounds_toArray, List.set_cons_zero, List.set_cons_succ, i64_w, i32_w]
    rfl
  refine take_ (i := 3) (N := some 34) (v := ?_) (a' := ?_) #[yY,yY,yY,yY,yY,yY,yY,nN,nN] rfl rfl (by kernel_rfl) (fun _ _ _ h => h) (Or.inl ⟨by rfl, ?_⟩) hHeld ?_ ?_
  rotate_left
  · rintro w' ⟨s0, s1⟩
    go_simp
    with_reducible rfl
  rotate_left
  · simp only [Act.put, List.setIfInBounds_toArray, List.set_cons_zero, List.set_cons_succ, i64_w, i32_w]
    rfl
  refine take_ (i := 7) (N := some 38) (v := ?_) (a' := ?_) #[yY,yY,yY,yY,yY,yY,yY,yY,nN] rfl rfl (by kernel_rfl) (fun _ _ _ h => h) (Or.inl ⟨by rfl, ?_⟩) hHeld ?_ ?_
  rotate_left
  · rintro w' ⟨s0, s1⟩
    go_simp
    with_reducible rfl
  rotate_left
  · simp only [Act.put, List.setIfInBounds_toArray, List.set_cons_zero, List.set_cons_succ, i64_w, i32_w]
    rfl
  refine last_ (i := 8) (N := some 39) #[yY,yY,yY,yY,yY,yY,yY,yY,yY] rfl rfl (by kernel_rfl) (by decide) (fun K hK => ?_)
  refine goes_ Tryd.func88 (by kernel_rfl) rfl #[.pointer (some ⟨db, 0, none⟩), .slice A ck.length cc] (by rfl) rfl rfl (by simp only [List.map_toArray, List.map_cons, List.map_nil]; rfl) ?_
  with_reducible refine (HW3.out).mono ?_
  rintro e W9 ⟨rfl, hO3, v3, hP3⟩
  refine ⟨_, rfl, ?_⟩
  have hb3 := HB2d.out.trans (hO3.below HS3.out (fun i hi => hi.2.1))
  have HAc_9 : Hid (At W9 W9 _ qc (prim 0 0 4 (.iface 24 (.slice A ck.length cc)) ck ⟨#[67, 111, 111, 107, 105, 101]⟩)) := Lib.hid ⟨(hP3.okmono (fun _ _ => trivial)).pk, Below.refl _ _, Nat.le_trans HS3.out (hO3.below HS3.out (fun i hi => hi.2.1)).size⟩
  have HAp_9 := Lib.hid (HAp_8.out.go hb3 HLp_c.out)
  have HAv_9 := Lib.hid (HAv_8.out.go hb3 HLv_c.out)
  have HAs_9 := Lib.hid (HAs_8.out.go hb3 HLs_c.out)
  have HB9 := Lib.hid (HB8.out.trans (hb3.mono HZc.out))
  clear hO3 hP3 hb3 HW3 HP3 HC3 HS3 HB2d
  refine hK.out _ _ ?_
  clear hK K
  refine norm_ (a' := ?_) ?_ ?_
  rotate_left
  · show Act.put _ (some 39) _ = _
    simp only [Act.put, List.setIfInBounds_toArray, List.set_cons_zero, List.set_cons_succ, i64_w, i32_w]
    rfl
  refine done_ (by kernel_rfl) ?_
  go_wp2_with (first
    | (go_at_call 93
       first
       | (with_reducible refine (app_at HAs_9.out HAc_9.out HLs_c.out HT6.out HT8.out (by decide) (by decide)).mono ?_
          rintro e W10 ⟨⟨u10_, rfl⟩, hA, hB⟩
          have HAs_10 := Lib.hid hA
          have HAp_10 := Lib.hid (HAp_9.out.go hB HLp_s.out)
          have HAv_10 := Lib.hid (HAv_9.out.go hB HLv_s.out)
          have HB10 := Lib.hid (HB9.out.trans (hB.mono HZs.out))
          clear hA hB)
       | (with_reducible refine (app_at HAv_10.out HAs_10.out HLv_s.out HT3.out HT9.out (by decide) (by decide)).mono ?_
          rintro e W11 ⟨⟨u11_, rfl⟩, hA, hB⟩
          have HAv_11 := Lib.hid hA
          have HAp_11 := Lib.hid (HAp_10.out.go hB HLp_v.out)
          have HB11 := Lib.hid (HB10.out.trans (hB.mono HZv.out))
          clear hA hB)
       | (with_reducible refine (app_at HAp_11.out HAv_11.out HLp_v.out HT2.out HT10.out (by decide) (by decide)).mono ?_
          rintro e W12 ⟨⟨u12_, rfl⟩, hA, hB⟩
          have HAp_12 := Lib.hid hA
          have HB12 := Lib.hid (HB11.out.trans (hB.mono HZp.out))
          clear hA hB)))
  go_ret
  exact ⟨qp, rfl, HAp_12.out, HB12.out⟩

end Go.Proofs.YtbmcpjkhnhbjdaaDoor.Ber
namespace Go.Proofs.YtbmcpjkhnhbjdaaDoor.Ber
open Go.RowKit Go.Proofs.YtbmcpjkhnhbjdaaDoorW.PrintWords Go.Proofs.YtbmcpjkhnhbjdaaDoor.PFnEncode Go.Proofs.YtbmcpjkhnhbjdaaDoor.Tree Go.Proofs.YtbmcpjkhnhbjdaaDoor.Buf Go.Proofs.YtbmcpjkhnhbjdaaDoor.Pk Go.Proofs.YtbmcpjkhnhbjdaaDoor.Within Go.Proofs.YtbmcpjkhnhbjdaaDoor.Num
set_option linter.unusedVariables false
set_option linter.unusedSimpArgs false

/-- a control in memory: its type, its block, the packet that it becomes -/
abbrev Ce := Nat × Nat × Pk
def ceV (e : Ce) : Value := .iface e.1 (.pointer (some ⟨e.2.1, 0, none⟩))
def kCe : Kd Ce := Kd.scalar ceV (fun _ => rfl)
/-- what calling its Encode gives, in this world and in all that leave the blocks 'ok' as they are -/
structure CtlAt (ok : Nat → Prop) (W : World) (e : Ce) : Prop where
  fn : ∃ F, (∀ w : World, (method 366 e.1 (.pointer (some ⟨e.2.1, 0, none⟩)) "Encode").run Tryd.prog w = .ok (F, .pointer (some ⟨e.2.1, 0, none⟩)) w) ∧ (∀ (args : Array Value) (w : World), (callFunc F args).run Tryd.prog w = .ok (.enter F args) w) ∧
    Foot (fun W' => Calls Tryd.prog F #[.pointer (some ⟨e.2.1, 0, none⟩)] W' fun e' w' => ∃ q, e' = .returned (.pointer (some ⟨q, 0, none⟩)) ∧ At w' w' W'.heap.size q e.2.2 ∧ Below W'.heap.size W' w') W ok
  fine : Fine e.2.2 3000000
theorem CtlAt.step {ok : Nat → Prop} {W W' : World} {e : Ce} (h : CtlAt ok W e) (hm : ∀ k, ok k → k < W.heap.size → W'.heap[k]? = W.heap[k]?) : CtlAt ok W' e := by
  obtain ⟨⟨F, h1, h2, h3⟩, h4⟩ := h
  exact ⟨⟨F, h1, h2, h3.step hm⟩, h4⟩
theorem CtlAt.mono {ok ok' : Nat → Prop} {W : World} {e : Ce} (h : CtlAt ok W e) (hk : ∀ k, ok k → ok' k) : CtlAt ok' W e := by
  obtain ⟨⟨F, h1, h2, h3⟩, h4⟩ := h
  exact ⟨⟨F, h1, h2, h3.mono hk⟩, h4⟩
theorem CtlAt.bound {ok : Nat → Prop} {W : World} {e : Ce} (h : CtlAt ok W e) : CtlAt (fun k => ok k ∧ k < W.heap.size) W e := by
  obtain ⟨⟨F, h1, h2, h3⟩, h4⟩ := h
  exact ⟨⟨F, h1, h2, h3.bound⟩, h4⟩
theorem CtlAt.below {ok : Nat → Prop} {W W' : World} {e : Ce} (h : CtlAt ok W e) (hb : Below W.heap.size W W') : CtlAt ok W' e := h.step (fun k _ hk => hb.block k hk)
theorem CtlAt.after {ok : Nat → Prop} {W w1 : World} {v v1 : Value} {e : Ce} (h : CtlAt (fun k => ok k ∧ some k ≠ v.ownBlock) W e) (hg : W.grownBy w1 v.ownBlock) (hat : v1.ownBlock = v.ownBlock ∨ ∃ b, v1.ownBlock = some b ∧ W.heap.size ≤ b) : CtlAt (fun k => ok k ∧ some k ≠ v1.ownBlock) w1 e :=
  ((h.bound).step (fun k hk hlt => hg.block k hlt hk.1.2)).mono (fun k hk => ⟨hk.1.1, fun he => by
    rcases hat with h1 | ⟨b, h1, h2⟩
    · exact hk.1.2 (he.trans h1)
    · have := hk.2
      rw [h1] at he
      injection he with he
      omega⟩)

/-- the controls' packet -/
def pCtls (l : List Ce) : Pk := foldK (bare 128 32 0 .nilIface ⟨#[67, 111, 110, 116, 114, 111, 108, 115]⟩) (fun e => e.2.2) l
theorem pCtls_fine (l : List Ce) (hl : ∀ e, e ∈ l → Fine e.2.2 3000000) (hn : l.length ≤ 5) : Fine (pCtls l) 20000000 :=
  (foldK_fine (fine_bare _ _ _ _ _ (by decide) (by decide) (by decide) (Or.inr rfl) (by decide) (by decide)) (by decide) l hl).le (by omega)
theorem tr_ctls (l : List Ce) : trOf (pCtls l) = ⟨2, 0, true, [], l.map fun e => trOf e.2.2⟩ := tr_fold 128 32 0 .nilIface _ _ l rfl

set_option maxHeartbeats 3200000 in
set_option maxRecDepth 100000 in
theorem ctls_any (l : List Ce) (hn : l.length ≤ 5) (A : Option Addr) (c : Nat) (w : World) (hl : ∀ e, e ∈ l → CtlAt (fun k => k < w.heap.size) w e) (hC : kCe.C w A l.length l) :
    Calls Tryd.prog 137 #[.slice A l.length c] w fun e w' => ∃ q, e = .returned (.pointer (some ⟨q, 0, none⟩)) ∧ At w' w' w.heap.size q (pCtls l) ∧ Below w.heap.size w w' := by
  have HC := Lib.hid hC
  have HL := Lib.hid hl
  obtain ⟨b0, hb0⟩ : ∃ b, b = bare 128 32 0 .nilIface ⟨#[67, 111, 110, 116, 114, 111, 108, 115]⟩ := ⟨_, rfl⟩
  have HTS : Hid (∀ k, k ≤ l.length → Top (foldK b0 (fun e : Ce => e.2.2) (l.take k)) 20000000) := Lib.hid (fun k hk => by
    rw [hb0]
    exact (pCtls_fine (l.take k) (fun a ha => (hl a (List.mem_of_mem_take ha)).fine) (by rw [List.length_take]; omega)).1)
  have HPA : Hid (foldK b0 (fun e : Ce => e.2.2) l = pCtls l) := Lib.hid (by rw [hb0]; rfl)
  have HB0 := Lib.hid hb0
  clear hb0 hl hC
  obtain ⟨px, hpx⟩ : ∃ px, px = pCtls l := ⟨_, rfl⟩
  rw [← hpx] at HPA ⊢
  clear hpx
  go_enter Tryd.func137, Tryd.ntmps137
  go_wp2_with (first
    | (go_at_call 87
       with_reducible refine (encode_at 128 32 0 _ w).mono ?_
       rintro e W1 ⟨qp, rfl, hA, hB⟩
       rw [← HB0.out] at hA
       have HA1 := Lib.hid hA
       have HB1 := Lib.hid hB
       clear hA hB))
  go_loopw [9] (fun i wr => ∃ k : Nat, i = .int .i64 k ∧ k ≤ l.length ∧ Hid (∃ V, At V wr w.heap.size qp (foldK b0 (fun e : Ce => e.2.2) (l.take k))) ∧ Hid (Below w.heap.size w wr)) (fun i _ => l.length - (intOf i).toNat)
  case atStart => exact ⟨0, rfl, Nat.zero_le _, Lib.hid ⟨_, HA1.out⟩, HB1⟩
  case round =>
    obtain ⟨k, rfl, hk, HI0, HBr⟩ := hrel
    obtain ⟨V, HI1⟩ := HI0.out
    have HI := Lib.hid HI1
    clear HI0 HI1
    by_cases hlt : k < l.length
    · obtain ⟨ad, rfl, e0⟩ := ReadsOf.at_ (Kd.reads_of_C (enc := ceV) (d := ((0, 0, b0) : Ce)) (h1 := fun _ => rfl) HC.out) (k : Int) (by omega) (by omega)
      rw [Int.toNat_natCast] at e0
      replace e0 := (HBr.out.cell (World.block_lt_of_cell? w _ e0)).trans e0
      have hrd : rdOf ((0, 0, b0) : Ce) l (k : Int) = l[k] := by rw [rdOf, Int.toNat_natCast, List.getD_eq_getElem?_getD, List.getElem?_eq_getElem hlt]; rfl
      rw [hrd] at e0
      have HTK := Lib.hid (HTS.out k hk)
      have HST := Lib.hid (foldK_step b0 (fun e : Ce => e.2.2) hlt)
      obtain ⟨s, hs⟩ : ∃ s, s = l[k] := ⟨_, rfl⟩
      have hca := HL.out _ (List.getElem_mem hlt)
      rw [← hs] at e0 hca HST
      clear hrd hs
      obtain ⟨⟨F, hm, hcf, hcall⟩, hfi⟩ := hca
      have HTE := Lib.hid hfi.1
      have hc2 : Calls Tryd.prog F #[.pointer (some ⟨s.2.1, 0, none⟩)] wr fun e' w' => ∃ q, e' = .returned (.pointer (some ⟨q, 0, none⟩)) ∧ At w' w' wr.heap.size q s.2.2 ∧ Below wr.heap.size wr w' := hcall wr (fun k hk _ => HBr.out.block k hk)
      have HCALL := Lib.hid hc2
      clear hcall hfi hc2
      obtain ⟨t, r, x⟩ := s
      simp only [ceV] at e0
      simp only at hm HCALL HTE HST
      go_wp2_with (first
        | (go_at_call 93
           with_reducible refine (app_at HI6.out HC6.out HL6.out HTK.out HTE.out (by decide) (by decide)).mono ?_
           rintro e W7 ⟨⟨u7, rfl⟩, hA, hB⟩
           have HI7 := Lib.hid hA
           have HB7 := Lib.hid (HB6.out.trans hB)
           clear hA hB)
        | (with_reducible refine HCALL.out.mono ?_
           rintro e W6 ⟨qv, rfl, hA, hB⟩
           have HL6 := Lib.hid HI.out.bel.size
           have HI6 := Lib.hid (HI.out.on hB)
           have HB6 := Lib.hid (HBr.out.trans (hB.mono HBr.out.size))
           have HC6 := Lib.hid hA
           clear hA hB))
      exact ⟨⟨k + 1, rfl, hlt, Lib.hid ⟨_, by rw [← HST.out]; exact HI7.out⟩, HB7⟩, by
        show l.length - ((k : Int) + 1).toNat < l.length - ((k : Int)).toNat
        rw [show ((k : Int) + 1).toNat = k + 1 from rfl, Int.toNat_natCast]
        omega⟩
    · obtain rfl : k = l.length := by omega
      rw [List.take_length] at HI
      have h9 := HI.out
      rw [HPA.out] at h9
      have H9 := Lib.hid h9
      clear h9 HTS HL
      go_wp2
      go_ret
      exact ⟨qp, rfl, ⟨H9.out.is.bound.below H9.out.bel |>.mono (fun _ _ => trivial), Below.refl _ _, HBr.out.size⟩, HBr.out⟩
end Go.Proofs.YtbmcpjkhnhbjdaaDoor.Ber
namespace Go.Proofs.YtbmcpjkhnhbjdaaDoor.Ber
open Go.RowKit Go.Proofs.YtbmcpjkhnhbjdaaDoorW.PrintWords Go.Proofs.YtbmcpjkhnhbjdaaDoor.PFnEncode Go.Proofs.YtbmcpjkhnhbjdaaDoor.Tree Go.Proofs.YtbmcpjkhnhbjdaaDoor.Buf Go.Proofs.YtbmcpjkhnhbjdaaDoor.Pk Go.Proofs.YtbmcpjkhnhbjdaaDoor.Within Go.Proofs.YtbmcpjkhnhbjdaaDoor.Num
set_option linter.unusedVariables false
set_option linter.unusedSimpArgs false

/-- controls as data -/
def ctlD (o : ByteArray) (b : Bool) (s : ByteArray) : S27 := ⟨0, 16, true, [], [⟨0, 4, false, bytesOf o, []⟩] ++ (if b then [⟨0, 1, false, [1], []⟩] else []) ++ (if s.toList.isEmpty then [] else [⟨0, 4, false, bytesOf s, []⟩])⟩
def pagD (n : Int) (ck : List Int) : S27 := ⟨0, 16, true, [], [⟨0, 4, false, bytesOf ⟨#[49, 46, 50, 46, 56, 52, 48, 46, 49, 49, 51, 53, 53, 54, 46, 49, 46, 52, 46, 51, 49, 57]⟩, []⟩, ⟨0, 4, false, pkBytes 0 16 true (pkBytes 0 2 false (whole n) ++ pkBytes 0 4 false ck), []⟩]⟩
def manD (b : Bool) : S27 := ⟨0, 16, true, [], [⟨0, 4, false, bytesOf ⟨#[50, 46, 49, 54, 46, 56, 52, 48, 46, 49, 46, 49, 49, 51, 55, 51, 48, 46, 51, 46, 52, 46, 50]⟩, []⟩] ++ (if b then [⟨0, 1, false, [1], []⟩] else [])⟩
/-- what impl.control gives -/
def GotCtl (w : World) (d : S27) (e : Ending) (w' : World) : Prop := ∃ s : Ce, e = .returned (ceV s) ∧ CtlAt (fun k => w.heap.size ≤ k ∧ k < w'.heap.size) w' s ∧ trOf s.2.2 = d ∧ Below w.heap.size w w'

theorem ctl_str (o s : ByteArray) (b : Bool) (ho : o.size ≤ 1000000) (hs : s.size ≤ 1000000) (r : Nat) (w W : World) (hr : W.heap[r]? = some (.cells #[.string o, .bool b, .string s] 214 (0, 0))) (hrl : w.heap.size ≤ r) (hb : Below w.heap.size w W) :
    GotCtl w (ctlD o b s) (.returned (.iface 179 (.pointer (some ⟨r, 0, none⟩)))) W := by
  have key : ∀ p : Pk, Fine p 3000000 → trOf p = ctlD o b s → (Foot (fun W' => Calls Tryd.prog 152 #[.pointer (some ⟨r, 0, none⟩)] W' fun e' w' => ∃ q, e' = .returned (.pointer (some ⟨q, 0, none⟩)) ∧ At w' w' W'.heap.size q p ∧ Below W'.heap.size W' w') W (fun k => w.heap.size ≤ k ∧ k < W.heap.size)) →
      GotCtl w (ctlD o b s) (.returned (.iface 179 (.pointer (some ⟨r, 0, none⟩)))) W := fun p h1 h2 h3 =>
    ⟨(179, r, p), rfl, ⟨⟨152, fun _ => by kernel_rfl, fun _ _ => by kernel_rfl, h3⟩, h1⟩, h2, hb⟩
  cases b <;> cases ev : s.toList.isEmpty
  · refine key (pCSFV o s) ((pCSFV_fine o s ho hs).le (by decide)) ?_ (fun W' h => enc_CSFV o s ho hs ev r W' ((h r ⟨hrl, blk_lt hr⟩ (blk_lt hr)).trans hr))
    unfold pCSFV ctlD addK bare prim
    simp [trOf, trL, ev]
  · refine key (pCSFE o s) ((pCSFE_fine o s ho hs).le (by decide)) ?_ (fun W' h => enc_CSFE o s ho hs ev r W' ((h r ⟨hrl, blk_lt hr⟩ (blk_lt hr)).trans hr))
    unfold pCSFE ctlD addK bare prim
    simp [trOf, trL, ev]
  · refine key (pCSTV o s) ((pCSTV_fine o s ho hs).le (by decide)) ?_ (fun W' h => enc_CSTV o s ho hs ev r W' ((h r ⟨hrl, blk_lt hr⟩ (blk_lt hr)).trans hr))
    unfold pCSTV ctlD addK bare prim
    simp [trOf, trL, ev, whole1]
  · refine key (pCSTE o s) ((pCSTE_fine o s ho hs).le (by decide)) ?_ (fun W' h => enc_CSTE o s ho hs ev r W' ((h r ⟨hrl, blk_lt hr⟩ (blk_lt hr)).trans hr))
    unfold pCSTE ctlD addK bare prim
    simp [trOf, trL, ev, whole1]
theorem ctl_man (b : Bool) (r : Nat) (w W : World) (hr : W.heap[r]? = some (.cells #[.bool b] 218 (0, 0))) (hrl : w.heap.size ≤ r) (hb : Below w.heap.size w W) :
    GotCtl w (manD b) (.returned (.iface 186 (.pointer (some ⟨r, 0, none⟩)))) W := by
  have key : ∀ p : Pk, Fine p 3000000 → trOf p = manD b → (Foot (fun W' => Calls Tryd.prog 156 #[.pointer (some ⟨r, 0, none⟩)] W' fun e' w' => ∃ q, e' = .returned (.pointer (some ⟨q, 0, none⟩)) ∧ At w' w' W'.heap.size q p ∧ Below W'.heap.size W' w') W (fun k => w.heap.size ≤ k ∧ k < W.heap.size)) →
      GotCtl w (manD b) (.returned (.iface 186 (.pointer (some ⟨r, 0, none⟩)))) W := fun p h1 h2 h3 =>
    ⟨(186, r, p), rfl, ⟨⟨156, fun _ => by kernel_rfl, fun _ _ => by kernel_rfl, h3⟩, h1⟩, h2, hb⟩
  cases b
  · refine key pCMF ((pCMF_fine ).le (by decide)) ?_ (fun W' h => enc_CMF r W' ((h r ⟨hrl, blk_lt hr⟩ (blk_lt hr)).trans hr))
    unfold pCMF manD addK bare prim
    simp [trOf, trL]
  · refine key pCMT ((pCMT_fine ).le (by decide)) ?_ (fun W' h => enc_CMT r W' ((h r ⟨hrl, blk_lt hr⟩ (blk_lt hr)).trans hr))
    unfold pCMT manD addK bare prim
    simp [trOf, trL, whole1]
theorem ctl_pag (n : Int) (A : Option Addr) (cc : Nat) (ck : List Int) (h0 : 0 ≤ n) (h1 : n < 2147483648) (hck : ck.length ≤ 1000000) (r : Nat) (w W : World) (hrow : Kd.F (Kd.int .u8) W (fun k => w.heap.size ≤ k ∧ k < W.heap.size) A ck.length ck) (hr : W.heap[r]? = some (.cells #[.int .u32 n, .slice A ck.length cc] 216 (0, 0))) (hrl : w.heap.size ≤ r) (hb : Below w.heap.size w W) :
    GotCtl w (pagD n ck) (.returned (.iface 181 (.pointer (some ⟨r, 0, none⟩)))) W := by
  refine ⟨(181, r, pCP n A cc ck), rfl, ⟨⟨154, fun _ => by kernel_rfl, fun _ _ => by kernel_rfl, fun W' h => enc_CP n A cc ck h0 h1 hck r W' (hrow W' h) ((h r ⟨hrl, blk_lt hr⟩ (blk_lt hr)).trans hr)⟩, (pCP_fine n A cc ck h0 h1 hck).le (by decide)⟩, ?_, hb⟩
  unfold pCP pagD addK bare prim
  simp [trOf, trL]

theorem two_new (w : World) (x1 x2 : Array Value) (t1 t2 : TypeId) : ((w.alloc (.cells x1 t1)).alloc (.cells x2 t2)).heap[w.heap.size + 1]? = some (.cells x2 t2 (0, 0)) := by
  have := blk_new (w.alloc (.cells x1 t1)) (.cells x2 t2)
  have e : (w.alloc (.cells x1 t1)).heap.size = w.heap.size + 1 := by simp
  rwa [e] at this
set_option maxHeartbeats 3200000 in
set_option maxRecDepth 100000 in
theorem ctl0_any (o : ByteArray) (b : Bool) (xs : List Int) (n : Int) (A3 : Option Addr) (c3 : Nat) (A5 : Option Addr) (n5 c5 : Nat) (w : World) (ho : o.size ≤ 1000000) (hx : xs.length ≤ 1000000) (g3 : B8.C w A3 xs.length xs) :
    Calls Tryd.prog 80 #[.agg #[.int .i64 0, .string o, .bool b, .slice A3 xs.length c3, .int .i64 n, .slice A5 n5 c5]] w (GotCtl w (ctlD o b (strOfNums xs))) := by
  have hb0 : Below w.heap.size w (w.alloc (.cells #[.int .i64 0, .string o, .bool b, .slice A3 xs.length c3, .int .i64 n, .slice A5 n5 c5] 79)) := below_alloc (Below.refl _ _) _
  have hcv : (convert 24 9 (.slice A3 xs.length c3)).run Tryd.prog (w.alloc (.cells #[.int .i64 0, .string o, .bool b, .slice A3 xs.length c3, .int .i64 n, .slice A5 n5 c5] 79)) = .ok (.string (strOfNums xs)) (w.alloc (.cells #[.int .i64 0, .string o, .bool b, .slice A3 xs.length c3, .int .i64 n, .slice A5 n5 c5] 79)) := Kd.C_string Tryd.underlying24 Tryd.underlying5 Tryd.underlying9 (Kd.C_below g3 hb0)
  have hs : (strOfNums xs).size ≤ 1000000 := by rw [show (strOfNums xs).size = xs.length by simp [strOfNums, ByteArray.size]]; exact hx
  obtain ⟨s, hss⟩ : ∃ s, s = strOfNums xs := ⟨_, rfl⟩
  rw [← hss] at hcv hs ⊢
  have HS := Lib.hid hs
  have HO := Lib.hid ho
  clear hss hs ho hx g3 hb0
  go_enter Tryd.func80, Tryd.ntmps80
  go_wp2_with (go_at_call 94; go_in)
  go_ret
  exact ctl_str o s b HO.out HS.out _ w _ (two_new w _ _ _ _) (Nat.le_succ _) (below_alloc (below_alloc (Below.refl _ _) _) _)
set_option maxHeartbeats 3200000 in
set_option maxRecDepth 100000 in
theorem ctl2_any (o : ByteArray) (b : Bool) (n3 : Nat) (n : Int) (A3 : Option Addr) (c3 : Nat) (A5 : Option Addr) (n5 c5 : Nat) (w : World) :
    Calls Tryd.prog 80 #[.agg #[.int .i64 2, .string o, .bool b, .slice A3 n3 c3, .int .i64 n, .slice A5 n5 c5]] w (GotCtl w (manD b)) := by
  go_enter Tryd.func80, Tryd.ntmps80
  go_wp2_with (go_at_call 98; go_in)
  go_ret
  exact ctl_man b _ w _ (two_new w _ _ _ _) (Nat.le_succ _) (below_alloc (below_alloc (Below.refl _ _) _) _)
set_option maxHeartbeats 3200000 in
set_option maxRecDepth 100000 in
theorem ctl1_any (o : ByteArray) (b : Bool) (n3 : Nat) (n : Int) (A3 : Option Addr) (c3 : Nat) (A5 : Option Addr) (ck : List Int) (c5 : Nat) (w : World) (h0 : 0 ≤ n) (h1 : n < 2147483648) (hck : ck.length ≤ 1000000) (g5 : B8.C w A5 ck.length ck) :
    Calls Tryd.prog 80 #[.agg #[.int .i64 1, .string o, .bool b, .slice A3 n3 c3, .int .i64 n, .slice A5 ck.length c5]] w (GotCtl w (pagD n ck)) := by
  have en : IntKind.u32.wrap n = n := by unfold IntKind.wrap IntKind.bits; simp; omega
  obtain ⟨W1, hW1⟩ : ∃ W1, W1 = (w.alloc (.cells #[.int .i64 1, .string o, .bool b, .slice A3 n3 c3, .int .i64 n, .slice A5 ck.length c5] 79)).alloc (.cells #[.int .u32 n, .slice none 0 0] 216) := ⟨_, rfl⟩
  have hb1 : Below w.heap.size w W1 := by rw [hW1]; exact below_alloc (below_alloc (Below.refl _ _) _) _
  have hs1 : W1.heap.size = w.heap.size + 2 := by rw [hW1]; simp
  have hr1 : W1.heap[w.heap.size + 1]? = some (.cells #[.int .u32 n, .slice none 0 0] 216 (0, 0)) := by rw [hW1]; exact two_new w _ _ _ _
  have HCL := Lib.hid (clone_any ck A5 c5 W1 (Kd.C_below g5 hb1) (by omega))
  have HN := Lib.hid (And.intro h0 (And.intro h1 hck))
  have HW1 := Lib.hid hW1
  have HB1 := Lib.hid hb1
  have HS1 := Lib.hid hs1
  have HR1 := Lib.hid hr1
  clear hW1 hb1 hs1 hr1 h0 h1 hck g5
  go_enter Tryd.func80, Tryd.ntmps80
  go_wp2_with (first
    | (go_at_call 95; go_in)
    | (go_at_call 97
       rw [← HW1.out]
       with_reducible refine HCL.out.mono ?_
       rintro e W2 ⟨v, rfl, hR2, hB2⟩
       obtain ⟨A, c, rfl, hc, hC⟩ := Kd.R_reads hR2
       clear hc hC
       have hr2 := blk_below HR1.out hB2
       have k1 : W2.cell? ⟨w.heap.size + 1, 1, none⟩ = some (.slice none 0 0) := blk_cell hr2 1
       have kf := blk_frozen hr2 1
       have HR2 := Lib.hid hr2
       have HV := Lib.hid hR2
       have HB2 := Lib.hid (HB1.out.trans (hB2.mono HB1.out.size))
       clear hr2 hR2 hB2)
    | (go_at_call 96; go_in))
  go_ret
  have hR3 := Kd.R_far (Kd.R_bound HV.out) (p := ⟨w.heap.size + 1, 1, none⟩) (fun k hk => by have := hk.2.1; have := HS1.out; intro h; simp only at h; omega) (.slice A ck.length c)
  have hF := Kd.R_F (Kd.R_bound hR3)
  exact ctl_pag n A c ck HN.out.1 HN.out.2.1 HN.out.2.2 _ w _ (Kd.F_mono hF (fun k hk => ⟨by have := hk.2.1; have := HS1.out; omega, hk.2.2.1⟩)) (blk_set HR2.out 1 _) (Nat.le_succ _) (HB2.out.setCell (p := ⟨w.heap.size + 1, 1, none⟩) (Nat.le_succ _) _)
end Go.Proofs.YtbmcpjkhnhbjdaaDoor.Ber
