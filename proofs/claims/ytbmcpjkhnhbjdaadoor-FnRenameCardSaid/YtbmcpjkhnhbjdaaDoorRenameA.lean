/- The requests to rename: the package's packets, in their four forms. -/
import Derived.Test.YtbmcpjkhnhbjdaaDoorReq
namespace Go.Proofs.YtbmcpjkhnhbjdaaDoor.Ber
open Go.RowKit Go.Proofs.YtbmcpjkhnhbjdaaDoorW.PrintWords Go.Proofs.YtbmcpjkhnhbjdaaDoor.PFnEncode Go.Proofs.YtbmcpjkhnhbjdaaDoor.Tree Go.Proofs.YtbmcpjkhnhbjdaaDoor.Buf Go.Proofs.YtbmcpjkhnhbjdaaDoor.Pk Go.Proofs.YtbmcpjkhnhbjdaaDoor.Within Go.Proofs.YtbmcpjkhnhbjdaaDoor.Num
set_option linter.unusedVariables false
set_option linter.unusedSimpArgs false

/-- a byte as a text -/
theorem conv_ff : ∀ W : World, (convert 24 9 (.slice (some ⟨W.heap.size, 0, none⟩) 1 1)).run Tryd.prog (W.alloc (.cells #[.int .u8 255] 5)) = .ok (.string ⟨#[255]⟩) (W.alloc (.cells #[.int .u8 255] 5)) := by
  intro W
  have hb := blk_new W (.cells #[.int .u8 255] 5)
  have ho : (W.alloc (.cells #[.int .u8 255] 5)).ownsRow 0 5 1 (.slice (some ⟨W.heap.size, 0, none⟩) 1 1) 1 (nums .u8 [255]) := ⟨rfl, .inr ⟨W.heap.size, 1, _, rfl, Nat.zero_le _, hb, Nat.le_refl _, by unfold maxLen; omega, rfl, rfl⟩⟩
  exact own_string (xs := [255]) Tryd.underlying24 Tryd.underlying5 Tryd.underlying9 ho
theorem bytes_ff : bytesOf ⟨#[255]⟩ = [255] := by decide

/-- the request as a packet -/
def pRenameTS (dn : ByteArray) (rd : ByteArray) (sp : ByteArray) : Pk := (addK (addK (addK (addK (bare 64 32 12 .nilIface ⟨#[77, 111, 100, 105, 102, 121, 32, 68, 78, 32, 82, 101, 113, 117, 101, 115, 116]⟩) (prim 0 0 4 (strV dn) (bytesOf dn) ⟨#[68, 78]⟩)) (prim 0 0 4 (strV rd) (bytesOf rd) ⟨#[78, 101, 119, 32, 82, 68, 78]⟩)) (prim 0 0 1 (strV ⟨#[255]⟩) (bytesOf ⟨#[255]⟩) ⟨#[68, 101, 108, 101, 116, 101, 32, 111, 108, 100, 32, 82, 68, 78]⟩)) (prim 128 0 0 (strV sp) (bytesOf sp) ⟨#[78, 101, 119, 32, 83, 117, 112, 101, 114, 105, 111, 114]⟩))
theorem pRenameTS_fine (dn : ByteArray) (rd : ByteArray) (sp : ByteArray) (hdn : dn.size ≤ 1000000) (hrd : rd.size ≤ 1000000) (hsp : sp.size ≤ 1000000) : Fine (pRenameTS dn rd sp) 4000056 := (fine_add (fine_add (fine_add (fine_add (fine_bare _ _ _ _ _ (by decide) (by decide) (by decide) (Or.inr rfl) (by decide) (by decide)) (fine_str _ _ _ _ _ (by decide) (by decide) (by decide) (Or.inl rfl) (by decide) (by decide) hdn) (by decide)) (fine_str _ _ _ _ _ (by decide) (by decide) (by decide) (Or.inl rfl) (by decide) (by decide) hrd) (by decide)) (fine_str (n := 1000000) _ _ _ _ _ (by decide) (by decide) (by decide) (Or.inl rfl) (by decide) (by decide) (by decide)) (by decide)) (fine_str _ _ _ _ _ (by decide) (by decide) (by decide) (Or.inl rfl) (by decide) (by decide) hsp) (by decide))
set_option maxHeartbeats 3200000 in
set_option maxRecDepth 100000 in
theorem appendTo_RenameTS (dn : ByteArray) (rd : ByteArray) (sp : ByteArray) (hdn : dn.size ≤ 1000000) (hrd : rd.size ≤ 1000000) (hsp : sp.size ≤ 1000000) (hne : sp.toList.isEmpty = false) (r base q n : Nat) (E : Pk) (w : World) (hE : At w w base q E) (tE : Top E n) (hn : n < 100000000000)
    (hr : w.heap[r]? = some (.cells #[.string dn, .string rd, .bool true, .string sp, .slice none 0 0] 158 (0, 0))) (hrb : r < base) :
    Calls Tryd.prog 135 #[.pointer (some ⟨r, 0, none⟩), .pointer (some ⟨q, 0, none⟩)] w fun e w' => e = .returned .nilIface ∧ At w' w' base q (addK E (pRenameTS dn rd sp)) ∧ Below base w w' := by
  have HE := Lib.hid hE
  have TE := Lib.hid tE
  have HR := Lib.hid hr
  have HRB := Lib.hid hrb
  have HT0 : Hid (Top (bare 64 32 12 .nilIface ⟨#[77, 111, 100, 105, 102, 121, 32, 68, 78, 32, 82, 101, 113, 117, 101, 115, 116]⟩) 0) := Lib.hid ((fine_bare _ _ _ _ _ (by decide) (by decide) (by decide) (Or.inr rfl) (by decide) (by decide))).1
  have HT1 : Hid (Top (prim 0 0 4 (strV dn) (bytesOf dn) ⟨#[68, 78]⟩) 1000000) := Lib.hid ((fine_str _ _ _ _ _ (by decide) (by decide) (by decide) (Or.inl rfl) (by decide) (by decide) hdn)).1
  have HT2 : Hid (Top (addK (bare 64 32 12 .nilIface ⟨#[77, 111, 100, 105, 102, 121, 32, 68, 78, 32, 82, 101, 113, 117, 101, 115, 116]⟩) (prim 0 0 4 (strV dn) (bytesOf dn) ⟨#[68, 78]⟩)) 1000014) := Lib.hid ((fine_add (fine_bare _ _ _ _ _ (by decide) (by decide) (by decide) (Or.inr rfl) (by decide) (by decide)) (fine_str _ _ _ _ _ (by decide) (by decide) (by decide) (Or.inl rfl) (by decide) (by decide) hdn) (by decide))).1
  have HT3 : Hid (Top (prim 0 0 4 (strV rd) (bytesOf rd) ⟨#[78, 101, 119, 32, 82, 68, 78]⟩) 1000000) := Lib.hid ((fine_str _ _ _ _ _ (by decide) (by decide) (by decide) (Or.inl rfl) (by decide) (by decide) hrd)).1
  have HT4 : Hid (Top (addK (addK (bare 64 32 12 .nilIface ⟨#[77, 111, 100, 105, 102, 121, 32, 68, 78, 32, 82, 101, 113, 117, 101, 115, 116]⟩) (prim 0 0 4 (strV dn) (bytesOf dn) ⟨#[68, 78]⟩)) (prim 0 0 4 (strV rd) (bytesOf rd) ⟨#[78, 101, 119, 32, 82, 68, 78]⟩)) 2000028) := Lib.hid ((fine_add (fine_add (fine_bare _ _ _ _ _ (by decide) (by decide) (by decide) (Or.inr rfl) (by decide) (by decide)) (fine_str _ _ _ _ _ (by decide) (by decide) (by decide) (Or.inl rfl) (by decide) (by decide) hdn) (by decide)) (fine_str _ _ _ _ _ (by decide) (by decide) (by decide) (Or.inl rfl) (by decide) (by decide) hrd) (by decide))).1
  have HT5 : Hid (Top (prim 0 0 1 (strV ⟨#[255]⟩) (bytesOf ⟨#[255]⟩) ⟨#[68, 101, 108, 101, 116, 101, 32, 111, 108, 100, 32, 82, 68, 78]⟩) 1000000) := Lib.hid ((fine_str (n := 1000000) _ _ _ _ _ (by decide) (by decide) (by decide) (Or.inl rfl) (by decide) (by decide) (by decide))).1
  have HT6 : Hid (Top (addK (addK (addK (bare 64 32 12 .nilIface ⟨#[77, 111, 100, 105, 102, 121, 32, 68, 78, 32, 82, 101, 113, 117, 101, 115, 116]⟩) (prim 0 0 4 (strV dn) (bytesOf dn) ⟨#[68, 78]⟩)) (prim 0 0 4 (strV rd) (bytesOf rd) ⟨#[78, 101, 119, 32, 82, 68, 78]⟩)) (prim 0 0 1 (strV ⟨#[255]⟩) (bytesOf ⟨#[255]⟩) ⟨#[68, 101, 108, 101, 116, 101, 32, 111, 108, 100, 32, 82, 68, 78]⟩)) 3000042) := Lib.hid ((fine_add (fine_add (fine_add (fine_bare _ _ _ _ _ (by decide) (by decide) (by decide) (Or.inr rfl) (by decide) (by decide)) (fine_str _ _ _ _ _ (by decide) (by decide) (by decide) (Or.inl rfl) (by decide) (by decide) hdn) (by decide)) (fine_str _ _ _ _ _ (by decide) (by decide) (by decide) (Or.inl rfl) (by decide) (by decide) hrd) (by decide)) (fine_str (n := 1000000) _ _ _ _ _ (by decide) (by decide) (by decide) (Or.inl rfl) (by decide) (by decide) (by decide)) (by decide))).1
  have HT7 : Hid (Top (prim 128 0 0 (strV sp) (bytesOf sp) ⟨#[78, 101, 119, 32, 83, 117, 112, 101, 114, 105, 111, 114]⟩) 1000000) := Lib.hid ((fine_str _ _ _ _ _ (by decide) (by decide) (by decide) (Or.inl rfl) (by decide) (by decide) hsp)).1
  have HT8 : Hid (Top (addK (addK (addK (addK (bare 64 32 12 .nilIface ⟨#[77, 111, 100, 105, 102, 121, 32, 68, 78, 32, 82, 101, 113, 117, 101, 115, 116]⟩) (prim 0 0 4 (strV dn) (bytesOf dn) ⟨#[68, 78]⟩)) (prim 0 0 4 (strV rd) (bytesOf rd) ⟨#[78, 101, 119, 32, 82, 68, 78]⟩)) (prim 0 0 1 (strV ⟨#[255]⟩) (bytesOf ⟨#[255]⟩) ⟨#[68, 101, 108, 101, 116, 101, 32, 111, 108, 100, 32, 82, 68, 78]⟩)) (prim 128 0 0 (strV sp) (bytesOf sp) ⟨#[78, 101, 119, 32, 83, 117, 112, 101, 114, 105, 111, 114]⟩)) 4000056) := Lib.hid ((fine_add (fine_add (fine_add (fine_add (fine_bare _ _ _ _ _ (by decide) (by decide) (by decide) (Or.inr rfl) (by decide) (by decide)) (fine_str _ _ _ _ _ (by decide) (by decide) (by decide) (Or.inl rfl) (by decide) (by decide) hdn) (by decide)) (fine_str _ _ _ _ _ (by decide) (by decide) (by decide) (Or.inl rfl) (by decide) (by decide) hrd) (by decide)) (fine_str (n := 1000000) _ _ _ _ _ (by decide) (by decide) (by decide) (Or.inl rfl) (by decide) (by decide) (by decide)) (by decide)) (fine_str _ _ _ _ _ (by decide) (by decide) (by decide) (Or.inl rfl) (by decide) (by decide) hsp) (by decide))).1
  have HS : Hid (dn.size ≤ 140737488355328 ∧ rd.size ≤ 140737488355328 ∧ sp.size ≤ 140737488355328 ∧ ByteArray.empty.size ≤ 140737488355328) := Lib.hid (⟨by omega, by omega, by omega, by decide⟩)
  have hcvf := conv_ff
  clear hE tE hr hrb hdn hrd hsp
  go_enter Tryd.func135, Tryd.ntmps135
  go_wp2_with (first
    | (go_at_call 87
       first
       | (with_reducible refine (encode_at 64 32 12 _ w).mono ?_
          rintro e W1 ⟨qp, rfl, hA, hB⟩
          have HAp_1 := Lib.hid hA
          have HZp : Hid (w.heap.size ≤ w.heap.size) := Lib.hid (Nat.le_refl _)
          have HB1 := Lib.hid (hB)
          have c1_0 : W1.cell? ⟨r, 0, none⟩ = some (.string dn) := blk_cell (blk_below HR.out HB1.out) 0
          clear hA hB))
    | (go_at_call 62
       first
       | (with_reducible refine (string_at 0 0 4 dn _ W1 HS.out.1).mono ?_
          rintro e W2 ⟨qc1, rfl, hA, hB⟩
          have HAc1_2 := Lib.hid hA
          have HLp_c1 := Lib.hid HAp_1.out.bel.size
          have HAp_2 := Lib.hid (HAp_1.out.on hB)
          have HB2 := Lib.hid (HB1.out.trans (hB.mono HB1.out.size))
          clear hA hB)
       | (with_reducible refine (string_at 0 0 4 rd _ W3 HS.out.2.1).mono ?_
          rintro e W4 ⟨qc3, rfl, hA, hB⟩
          have HAc3_4 := Lib.hid hA
          have HLp_c3 := Lib.hid HAp_3.out.bel.size
          have HAp_4 := Lib.hid (HAp_3.out.on hB)
          have HB4 := Lib.hid (HB3.out.trans (hB.mono HB3.out.size))
          clear hA hB)
       | (obtain ⟨WF, hWF⟩ : ∃ V, V = W5.alloc (.cells #[.int .u8 255] 5) := ⟨_, rfl⟩
          rw [← hWF]
          have hW : Below W5.heap.size W5 WF := by rw [hWF]; exact below_alloc (Below.refl _ _) _
          clear hWF
          with_reducible refine (string_at 0 0 1 ⟨#[255]⟩ _ WF (by decide)).mono ?_
          rintro e W6 ⟨qc5, rfl, hA, hB⟩
          have HAc5_6 := Lib.hid hA
          have HLp_c5 := Lib.hid (Nat.le_trans HAp_5.out.bel.size hW.size)
          replace hB := hW.trans (hB.mono hW.size)
          have HAp_6 := Lib.hid (HAp_5.out.on hB)
          have HB6 := Lib.hid (HB5.out.trans (hB.mono HB5.out.size))
          clear hA hB)
       | (with_reducible refine (string_at 128 0 0 sp _ W7 HS.out.2.2.1).mono ?_
          rintro e W8 ⟨qc7, rfl, hA, hB⟩
          have HAc7_8 := Lib.hid hA
          have HLp_c7 := Lib.hid HAp_7.out.bel.size
          have HAp_8 := Lib.hid (HAp_7.out.on hB)
          have HB8 := Lib.hid (HB7.out.trans (hB.mono HB7.out.size))
          clear hA hB))
    | (go_at_call 93
       first
       | (with_reducible refine (app_at HAp_2.out HAc1_2.out HLp_c1.out HT0.out HT1.out (by decide) (by decide)).mono ?_
          rintro e W3 ⟨⟨u3_, rfl⟩, hA, hB⟩
          have HAp_3 := Lib.hid hA
          have HB3 := Lib.hid (HB2.out.trans (hB.mono HZp.out))
          have c3_1 : W3.cell? ⟨r, 1, none⟩ = some (.string rd) := blk_cell (blk_below HR.out HB3.out) 1
          clear hA hB)
       | (with_reducible refine (app_at HAp_4.out HAc3_4.out HLp_c3.out HT2.out HT3.out (by decide) (by decide)).mono ?_
          rintro e W5 ⟨⟨u5_, rfl⟩, hA, hB⟩
          have HAp_5 := Lib.hid hA
          have HB5 := Lib.hid (HB4.out.trans (hB.mono HZp.out))
          have c5_2 : W5.cell? ⟨r, 2, none⟩ = some (.bool true) := blk_cell (blk_below HR.out HB5.out) 2
          clear hA hB)
       | (with_reducible refine (app_at HAp_6.out HAc5_6.out HLp_c5.out HT4.out HT5.out (by decide) (by decide)).mono ?_
          rintro e W7 ⟨⟨u7_, rfl⟩, hA, hB⟩
          have HAp_7 := Lib.hid hA
          have HB7 := Lib.hid (HB6.out.trans (hB.mono HZp.out))
          have c7_3 : W7.cell? ⟨r, 3, none⟩ = some (.string sp) := blk_cell (blk_below HR.out HB7.out) 3
          clear hA hB)
       | (with_reducible refine (app_at HAp_8.out HAc7_8.out HLp_c7.out HT6.out HT7.out (by decide) (by decide)).mono ?_
          rintro e W9 ⟨⟨u9_, rfl⟩, hA, hB⟩
          have HAp_9 := Lib.hid hA
          have HB9 := Lib.hid (HB8.out.trans (hB.mono HZp.out))
          have c9_3 : W9.cell? ⟨r, 3, none⟩ = some (.string sp) := blk_cell (blk_below HR.out HB9.out) 3
          clear hA hB)
       | (with_reducible refine (app_at (HE.out.on HB9.out) HAp_9.out HZp.out TE.out HT8.out (by omega) (by decide)).mono ?_
          rintro e W10 ⟨⟨u10_, rfl⟩, hA, hB⟩
          have HAE := Lib.hid hA
          have HBE := Lib.hid ((HB9.out.mono HE.out.le).trans hB)
          have cE_4 : W10.cell? ⟨r, 4, none⟩ = some (.slice none 0 0) := blk_cell ((HBE.out.block r HRB.out).trans HR.out) 4
          clear hA hB)))
  go_ret
  exact ⟨rfl, HAE.out, HBE.out⟩

/-- the request as data -/
def dRenameTS (dn : ByteArray) (rd : ByteArray) (sp : ByteArray) : S27 := ⟨1, 12, true, [], [⟨0, 4, false, bytesOf dn, []⟩, ⟨0, 4, false, bytesOf rd, []⟩, ⟨0, 1, false, [255], []⟩, ⟨2, 0, false, bytesOf sp, []⟩]⟩
theorem tr_RenameTS (dn : ByteArray) (rd : ByteArray) (sp : ByteArray) : trOf (pRenameTS dn rd sp) = dRenameTS dn rd sp := by
  unfold pRenameTS dRenameTS addK bare prim
  simp [trOf, trL, bytes_ff, whole0]
theorem RenameTS_ta (r : Nat) : ∀ w : World, (Instr.typeAssert (.iface 93 (.pointer (some ⟨r, 0, none⟩))) 20 200 true).run Tryd.prog w = .ok (.tuple #[.iface 93 (.pointer (some ⟨r, 0, none⟩)), .bool true]) w := fun _ => by kernel_rfl
theorem RenameTS_m (r : Nat) : ∀ w : World, (method 366 93 (.pointer (some ⟨r, 0, none⟩)) "goldap/pub/goldap.appendTo").run Tryd.prog w = .ok (135, (.pointer (some ⟨r, 0, none⟩))) w := fun _ => by kernel_rfl
theorem RenameTS_cf : ∀ (args : Array Value) (w : World), (callFunc 135 args).run Tryd.prog w = .ok (.enter 135 args) w := fun _ _ => by kernel_rfl
set_option maxHeartbeats 3200000 in
set_option maxRecDepth 100000 in
theorem iRenameTS_any (dn rd sp : ByteArray) (w : World) (hdn : dn.size ≤ 1000000) (hrd : rd.size ≤ 1000000) (hsp : sp.size ≤ 1000000) (hne : sp.toList.isEmpty = false) :
    Calls Tryd.prog 15 #[.string dn, .string rd, .bool true, .string sp] w (OpRes w (dRenameTS dn rd sp)) := by
  obtain ⟨W0, hW0⟩ : ∃ W0, W0 = (w.alloc (.cells #[.int .i64 0, .int .i64 0, .bool false, .slice none 0 0, .slice none 0 0] 27)).alloc (.cells #[.string dn, .string rd, .bool true, .string sp, .slice none 0 0] 158) := ⟨_, rfl⟩
  have hb0 : Below w.heap.size w W0 := by rw [hW0]; exact below_alloc (below_alloc (Below.refl _ _) _) _
  have hs0 : w.heap.size + 2 ≤ W0.heap.size := by rw [hW0]; simp
  have hz0 : W0.heap[w.heap.size]? = some (.cells #[.int .i64 0, .int .i64 0, .bool false, .slice none 0 0, .slice none 0 0] 27 (0, 0)) := by rw [hW0]; exact blk_alloc (blk_new _ _) _
  have hr0 : W0.heap[w.heap.size + 1]? = some (.cells #[.string dn, .string rd, .bool true, .string sp, .slice none 0 0] 158 (0, 0)) := by
    have := blk_new (w.alloc (.cells #[.int .i64 0, .int .i64 0, .bool false, .slice none 0 0, .slice none 0 0] 27)) (.cells #[.string dn, .string rd, .bool true, .string sp, .slice none 0 0] 158)
    have e : (w.alloc (.cells #[.int .i64 0, .int .i64 0, .bool false, .slice none 0 0, .slice none 0 0] 27)).heap.size = w.heap.size + 1 := by simp
    rw [e, ← hW0] at this
    exact this
  have HO := Lib.hid (operation_any 93 135 (.pointer (some ⟨w.heap.size + 1, 0, none⟩)) (pRenameTS dn rd sp) W0 (RenameTS_ta _) (RenameTS_m _) RenameTS_cf
    (fun W hW q E n W' hE tE hn hb => appendTo_RenameTS dn rd sp hdn hrd hsp hne (w.heap.size + 1) W.heap.size q n E W' hE tE hn (blk_below (blk_below hr0 hW) hb) (by have := hW.size; omega))
    ((pRenameTS_fine dn rd sp hdn hrd hsp).ok (by decide)))
  rw [tr_RenameTS] at HO
  obtain ⟨y, hy⟩ : ∃ y, y = dRenameTS dn rd sp := ⟨_, rfl⟩
  rw [← hy] at HO ⊢
  have HB0 := Lib.hid hb0
  have HS0 := Lib.hid hs0
  have HZ0 := Lib.hid hz0
  have HW0 := Lib.hid hW0
  clear hy hb0 hs0 hz0 hr0 hW0 hdn hrd hsp
  go_enter Tryd.func15, Tryd.ntmps15
  go_wp2_with (first
    | (go_at_call 49; go_in)
    | (go_at_call 43
       rw [← HW0.out]
       with_reducible refine HO.out.mono ?_
       rintro e W1 ⟨A3, c3, A4, c4, rfl, l3, h3, l4, h4, hB1⟩
       have HZ1 := Lib.hid (blk_below HZ0.out hB1)
       have HB1 := Lib.hid (HB0.out.trans (hB1.mono HB0.out.size))
       have HF := Lib.hid (And.intro l3 (And.intro h3 (And.intro l4 h4)))
       have k0 : W1.cell? ⟨w.heap.size, 0, none⟩ = some (.int .i64 0) := blk_cell HZ1.out 0
       have k1 : W1.cell? ⟨w.heap.size, 1, none⟩ = some (.int .i64 0) := blk_cell HZ1.out 1
       have k2 : W1.cell? ⟨w.heap.size, 2, none⟩ = some (.bool false) := blk_cell HZ1.out 2
       have k3 : W1.cell? ⟨w.heap.size, 3, none⟩ = some (.slice none 0 0) := blk_cell HZ1.out 3
       have k4 : W1.cell? ⟨w.heap.size, 4, none⟩ = some (.slice none 0 0) := blk_cell HZ1.out 4
       have kf0 := blk_frozen HZ1.out 0
       have kf1 := blk_frozen HZ1.out 1
       have kf2 := blk_frozen HZ1.out 2
       have kf3 := blk_frozen HZ1.out 3
       have kf4 := blk_frozen HZ1.out 4
       clear l3 h3 l4 h4 hB1 HO))
  try simp only [Exit.inBlock, Exit.then]
  obtain ⟨h5, hend⟩ := req_end HB1.out (Nat.le_refl _) HB0.out.size (fun k hk => by have := HS0.out; omega) HZ1.out HF.out.1 HF.out.2.1 HF.out.2.2.1 HF.out.2.2.2 rfl
  exact bodyPost_ret (results_ct (p := 8) (u := 9) rfl _ _ _ _ _ _ _ rfl h5 Tryd.underlying27 rfl size_ip) rfl hend

/-- the request as a packet -/
def pRenameTN (dn : ByteArray) (rd : ByteArray) (sp : ByteArray) : Pk := (addK (addK (addK (bare 64 32 12 .nilIface ⟨#[77, 111, 100, 105, 102, 121, 32, 68, 78, 32, 82, 101, 113, 117, 101, 115, 116]⟩) (prim 0 0 4 (strV dn) (bytesOf dn) ⟨#[68, 78]⟩)) (prim 0 0 4 (strV rd) (bytesOf rd) ⟨#[78, 101, 119, 32, 82, 68, 78]⟩)) (prim 0 0 1 (strV ⟨#[255]⟩) (bytesOf ⟨#[255]⟩) ⟨#[68, 101, 108, 101, 116, 101, 32, 111, 108, 100, 32, 82, 68, 78]⟩))
theorem pRenameTN_fine (dn : ByteArray) (rd : ByteArray) (sp : ByteArray) (hdn : dn.size ≤ 1000000) (hrd : rd.size ≤ 1000000) (hsp : sp.size ≤ 1000000) : Fine (pRenameTN dn rd sp) 3000042 := (fine_add (fine_add (fine_add (fine_bare _ _ _ _ _ (by decide) (by decide) (by decide) (Or.inr rfl) (by decide) (by decide)) (fine_str _ _ _ _ _ (by decide) (by decide) (by decide) (Or.inl rfl) (by decide) (by decide) hdn) (by decide)) (fine_str _ _ _ _ _ (by decide) (by decide) (by decide) (Or.inl rfl) (by decide) (by decide) hrd) (by decide)) (fine_str (n := 1000000) _ _ _ _ _ (by decide) (by decide) (by decide) (Or.inl rfl) (by decide) (by decide) (by decide)) (by decide))
set_option maxHeartbeats 3200000 in
set_option maxRecDepth 100000 in
theorem appendTo_RenameTN (dn : ByteArray) (rd : ByteArray) (sp : ByteArray) (hdn : dn.size ≤ 1000000) (hrd : rd.size ≤ 1000000) (hsp : sp.size ≤ 1000000) (hne : sp.toList.isEmpty = true) (r base q n : Nat) (E : Pk) (w : World) (hE : At w w base q E) (tE : Top E n) (hn : n < 100000000000)
    (hr : w.heap[r]? = some (.cells #[.string dn, .string rd, .bool true, .string sp, .slice none 0 0] 158 (0, 0))) (hrb : r < base) :
    Calls Tryd.prog 135 #[.pointer (some ⟨r, 0, none⟩), .pointer (some ⟨q, 0, none⟩)] w fun e w' => e = .returned .nilIface ∧ At w' w' base q (addK E (pRenameTN dn rd sp)) ∧ Below base w w' := by
  have HE := Lib.hid hE
  have TE := Lib.hid tE
  have HR := Lib.hid hr
  have HRB := Lib.hid hrb
  have HT0 : Hid (Top (bare 64 32 12 .nilIface ⟨#[77, 111, 100, 105, 102, 121, 32, 68, 78, 32, 82, 101, 113, 117, 101, 115, 116]⟩) 0) := Lib.hid ((fine_bare _ _ _ _ _ (by decide) (by decide) (by decide) (Or.inr rfl) (by decide) (by decide))).1
  have HT1 : Hid (Top (prim 0 0 4 (strV dn) (bytesOf dn) ⟨#[68, 78]⟩) 1000000) := Lib.hid ((fine_str _ _ _ _ _ (by decide) (by decide) (by decide) (Or.inl rfl) (by decide) (by decide) hdn)).1
  have HT2 : Hid (Top (addK (bare 64 32 12 .nilIface ⟨#[77, 111, 100, 105, 102, 121, 32, 68, 78, 32, 82, 101, 113, 117, 101, 115, 116]⟩) (prim 0 0 4 (strV dn) (bytesOf dn) ⟨#[68, 78]⟩)) 1000014) := Lib.hid ((fine_add (fine_bare _ _ _ _ _ (by decide) (by decide) (by decide) (Or.inr rfl) (by decide) (by decide)) (fine_str _ _ _ _ _ (by decide) (by decide) (by decide) (Or.inl rfl) (by decide) (by decide) hdn) (by decide))).1
  have HT3 : Hid (Top (prim 0 0 4 (strV rd) (bytesOf rd) ⟨#[78, 101, 119, 32, 82, 68, 78]⟩) 1000000) := Lib.hid ((fine_str _ _ _ _ _ (by decide) (by decide) (by decide) (Or.inl rfl) (by decide) (by decide) hrd)).1
  have HT4 : Hid (Top (addK (addK (bare 64 32 12 .nilIface ⟨#[77, 111, 100, 105, 102, 121, 32, 68, 78, 32, 82, 101, 113, 117, 101, 115, 116]⟩) (prim 0 0 4 (strV dn) (bytesOf dn) ⟨#[68, 78]⟩)) (prim 0 0 4 (strV rd) (bytesOf rd) ⟨#[78, 101, 119, 32, 82, 68, 78]⟩)) 2000028) := Lib.hid ((fine_add (fine_add (fine_bare _ _ _ _ _ (by decide) (by decide) (by decide) (Or.inr rfl) (by decide) (by decide)) (fine_str _ _ _ _ _ (by decide) (by decide) (by decide) (Or.inl rfl) (by decide) (by decide) hdn) (by decide)) (fine_str _ _ _ _ _ (by decide) (by decide) (by decide) (Or.inl rfl) (by decide) (by decide) hrd) (by decide))).1
  have HT5 : Hid (Top (prim 0 0 1 (strV ⟨#[255]⟩) (bytesOf ⟨#[255]⟩) ⟨#[68, 101, 108, 101, 116, 101, 32, 111, 108, 100, 32, 82, 68, 78]⟩) 1000000) := Lib.hid ((fine_str (n := 1000000) _ _ _ _ _ (by decide) (by decide) (by decide) (Or.inl rfl) (by decide) (by decide) (by decide))).1
  have HT6 : Hid (Top (addK (addK (addK (bare 64 32 12 .nilIface ⟨#[77, 111, 100, 105, 102, 121, 32, 68, 78, 32, 82, 101, 113, 117, 101, 115, 116]⟩) (prim 0 0 4 (strV dn) (bytesOf dn) ⟨#[68, 78]⟩)) (prim 0 0 4 (strV rd) (bytesOf rd) ⟨#[78, 101, 119, 32, 82, 68, 78]⟩)) (prim 0 0 1 (strV ⟨#[255]⟩) (bytesOf ⟨#[255]⟩) ⟨#[68, 101, 108, 101, 116, 101, 32, 111, 108, 100, 32, 82, 68, 78]⟩)) 3000042) := Lib.hid ((fine_add (fine_add (fine_add (fine_bare _ _ _ _ _ (by decide) (by decide) (by decide) (Or.inr rfl) (by decide) (by decide)) (fine_str _ _ _ _ _ (by decide) (by decide) (by decide) (Or.inl rfl) (by decide) (by decide) hdn) (by decide)) (fine_str _ _ _ _ _ (by decide) (by decide) (by decide) (Or.inl rfl) (by decide) (by decide) hrd) (by decide)) (fine_str (n := 1000000) _ _ _ _ _ (by decide) (by decide) (by decide) (Or.inl rfl) (by decide) (by decide) (by decide)) (by decide))).1
  have HS : Hid (dn.size ≤ 140737488355328 ∧ rd.size ≤ 140737488355328 ∧ sp.size ≤ 140737488355328 ∧ ByteArray.empty.size ≤ 140737488355328) := Lib.hid (⟨by omega, by omega, by omega, by decide⟩)
  have hcvf := conv_ff
  clear hE tE hr hrb hdn hrd hsp
  go_enter Tryd.func135, Tryd.ntmps135
  go_wp2_with (first
    | (go_at_call 87
       first
       | (with_reducible refine (encode_at 64 32 12 _ w).mono ?_
          rintro e W1 ⟨qp, rfl, hA, hB⟩
          have HAp_1 := Lib.hid hA
          have HZp : Hid (w.heap.size ≤ w.heap.size) := Lib.hid (Nat.le_refl _)
          have HB1 := Lib.hid (hB)
          have c1_0 : W1.cell? ⟨r, 0, none⟩ = some (.string dn) := blk_cell (blk_below HR.out HB1.out) 0
          clear hA hB))
    | (go_at_call 62
       first
       | (with_reducible refine (string_at 0 0 4 dn _ W1 HS.out.1).mono ?_
          rintro e W2 ⟨qc1, rfl, hA, hB⟩
          have HAc1_2 := Lib.hid hA
          have HLp_c1 := Lib.hid HAp_1.out.bel.size
          have HAp_2 := Lib.hid (HAp_1.out.on hB)
          have HB2 := Lib.hid (HB1.out.trans (hB.mono HB1.out.size))
          clear hA hB)
       | (with_reducible refine (string_at 0 0 4 rd _ W3 HS.out.2.1).mono ?_
          rintro e W4 ⟨qc3, rfl, hA, hB⟩
          have HAc3_4 := Lib.hid hA
          have HLp_c3 := Lib.hid HAp_3.out.bel.size
          have HAp_4 := Lib.hid (HAp_3.out.on hB)
          have HB4 := Lib.hid (HB3.out.trans (hB.mono HB3.out.size))
          clear hA hB)
       | (obtain ⟨WF, hWF⟩ : ∃ V, V = W5.alloc (.cells #[.int .u8 255] 5) := ⟨_, rfl⟩
          rw [← hWF]
          have hW : Below W5.heap.size W5 WF := by rw [hWF]; exact below_alloc (Below.refl _ _) _
          clear hWF
          with_reducible refine (string_at 0 0 1 ⟨#[255]⟩ _ WF (by decide)).mono ?_
          rintro e W6 ⟨qc5, rfl, hA, hB⟩
          have HAc5_6 := Lib.hid hA
          have HLp_c5 := Lib.hid (Nat.le_trans HAp_5.out.bel.size hW.size)
          replace hB := hW.trans (hB.mono hW.size)
          have HAp_6 := Lib.hid (HAp_5.out.on hB)
          have HB6 := Lib.hid (HB5.out.trans (hB.mono HB5.out.size))
          clear hA hB))
    | (go_at_call 93
       first
       | (with_reducible refine (app_at HAp_2.out HAc1_2.out HLp_c1.out HT0.out HT1.out (by decide) (by decide)).mono ?_
          rintro e W3 ⟨⟨u3_, rfl⟩, hA, hB⟩
          have HAp_3 := Lib.hid hA
          have HB3 := Lib.hid (HB2.out.trans (hB.mono HZp.out))
          have c3_1 : W3.cell? ⟨r, 1, none⟩ = some (.string rd) := blk_cell (blk_below HR.out HB3.out) 1
          clear hA hB)
       | (with_reducible refine (app_at HAp_4.out HAc3_4.out HLp_c3.out HT2.out HT3.out (by decide) (by decide)).mono ?_
          rintro e W5 ⟨⟨u5_, rfl⟩, hA, hB⟩
          have HAp_5 := Lib.hid hA
          have HB5 := Lib.hid (HB4.out.trans (hB.mono HZp.out))
          have c5_2 : W5.cell? ⟨r, 2, none⟩ = some (.bool true) := blk_cell (blk_below HR.out HB5.out) 2
          clear hA hB)
       | (with_reducible refine (app_at HAp_6.out HAc5_6.out HLp_c5.out HT4.out HT5.out (by decide) (by decide)).mono ?_
          rintro e W7 ⟨⟨u7_, rfl⟩, hA, hB⟩
          have HAp_7 := Lib.hid hA
          have HB7 := Lib.hid (HB6.out.trans (hB.mono HZp.out))
          have c7_3 : W7.cell? ⟨r, 3, none⟩ = some (.string sp) := blk_cell (blk_below HR.out HB7.out) 3
          clear hA hB)
       | (with_reducible refine (app_at (HE.out.on HB7.out) HAp_7.out HZp.out TE.out HT6.out (by omega) (by decide)).mono ?_
          rintro e W8 ⟨⟨u8_, rfl⟩, hA, hB⟩
          have HAE := Lib.hid hA
          have HBE := Lib.hid ((HB7.out.mono HE.out.le).trans hB)
          have cE_4 : W8.cell? ⟨r, 4, none⟩ = some (.slice none 0 0) := blk_cell ((HBE.out.block r HRB.out).trans HR.out) 4
          clear hA hB)))
  go_ret
  exact ⟨rfl, HAE.out, HBE.out⟩

/-- the request as data -/
def dRenameTN (dn : ByteArray) (rd : ByteArray) (sp : ByteArray) : S27 := ⟨1, 12, true, [], [⟨0, 4, false, bytesOf dn, []⟩, ⟨0, 4, false, bytesOf rd, []⟩, ⟨0, 1, false, [255], []⟩]⟩
theorem tr_RenameTN (dn : ByteArray) (rd : ByteArray) (sp : ByteArray) : trOf (pRenameTN dn rd sp) = dRenameTN dn rd sp := by
  unfold pRenameTN dRenameTN addK bare prim
  simp [trOf, trL, bytes_ff, whole0]
theorem RenameTN_ta (r : Nat) : ∀ w : World, (Instr.typeAssert (.iface 93 (.pointer (some ⟨r, 0, none⟩))) 20 200 true).run Tryd.prog w = .ok (.tuple #[.iface 93 (.pointer (some ⟨r, 0, none⟩)), .bool true]) w := fun _ => by kernel_rfl
theorem RenameTN_m (r : Nat) : ∀ w : World, (method 366 93 (.pointer (some ⟨r, 0, none⟩)) "goldap/pub/goldap.appendTo").run Tryd.prog w = .ok (135, (.pointer (some ⟨r, 0, none⟩))) w := fun _ => by kernel_rfl
theorem RenameTN_cf : ∀ (args : Array Value) (w : World), (callFunc 135 args).run Tryd.prog w = .ok (.enter 135 args) w := fun _ _ => by kernel_rfl
set_option maxHeartbeats 3200000 in
set_option maxRecDepth 100000 in
theorem iRenameTN_any (dn rd sp : ByteArray) (w : World) (hdn : dn.size ≤ 1000000) (hrd : rd.size ≤ 1000000) (hsp : sp.size ≤ 1000000) (hne : sp.toList.isEmpty = true) :
    Calls Tryd.prog 15 #[.string dn, .string rd, .bool true, .string sp] w (OpRes w (dRenameTN dn rd sp)) := by
  obtain ⟨W0, hW0⟩ : ∃ W0, W0 = (w.alloc (.cells #[.int .i64 0, .int .i64 0, .bool false, .slice none 0 0, .slice none 0 0] 27)).alloc (.cells #[.string dn, .string rd, .bool true, .string sp, .slice none 0 0] 158) := ⟨_, rfl⟩
  have hb0 : Below w.heap.size w W0 := by rw [hW0]; exact below_alloc (below_alloc (Below.refl _ _) _) _
  have hs0 : w.heap.size + 2 ≤ W0.heap.size := by rw [hW0]; simp
  have hz0 : W0.heap[w.heap.size]? = some (.cells #[.int .i64 0, .int .i64 0, .bool false, .slice none 0 0, .slice none 0 0] 27 (0, 0)) := by rw [hW0]; exact blk_alloc (blk_new _ _) _
  have hr0 : W0.heap[w.heap.size + 1]? = some (.cells #[.string dn, .string rd, .bool true, .string sp, .slice none 0 0] 158 (0, 0)) := by
    have := blk_new (w.alloc (.cells #[.int .i64 0, .int .i64 0, .bool false, .slice none 0 0, .slice none 0 0] 27)) (.cells #[.string dn, .string rd, .bool true, .string sp, .slice none 0 0] 158)
    have e : (w.alloc (.cells #[.int .i64 0, .int .i64 0, .bool false, .slice none 0 0, .slice none 0 0] 27)).heap.size = w.heap.size + 1 := by simp
    rw [e, ← hW0] at this
    exact this
  have HO := Lib.hid (operation_any 93 135 (.pointer (some ⟨w.heap.size + 1, 0, none⟩)) (pRenameTN dn rd sp) W0 (RenameTN_ta _) (RenameTN_m _) RenameTN_cf
    (fun W hW q E n W' hE tE hn hb => appendTo_RenameTN dn rd sp hdn hrd hsp hne (w.heap.size + 1) W.heap.size q n E W' hE tE hn (blk_below (blk_below hr0 hW) hb) (by have := hW.size; omega))
    ((pRenameTN_fine dn rd sp hdn hrd hsp).ok (by decide)))
  rw [tr_RenameTN] at HO
  obtain ⟨y, hy⟩ : ∃ y, y = dRenameTN dn rd sp := ⟨_, rfl⟩
  rw [← hy] at HO ⊢
  have HB0 := Lib.hid hb0
  have HS0 := Lib.hid hs0
  have HZ0 := Lib.hid hz0
  have HW0 := Lib.hid hW0
  clear hy hb0 hs0 hz0 hr0 hW0 hdn hrd hsp
  go_enter Tryd.func15, Tryd.ntmps15
  go_wp2_with (first
    | (go_at_call 49; go_in)
    | (go_at_call 43
       rw [← HW0.out]
       with_reducible refine HO.out.mono ?_
       rintro e W1 ⟨A3, c3, A4, c4, rfl, l3, h3, l4, h4, hB1⟩
       have HZ1 := Lib.hid (blk_below HZ0.out hB1)
       have HB1 := Lib.hid (HB0.out.trans (hB1.mono HB0.out.size))
       have HF := Lib.hid (And.intro l3 (And.intro h3 (And.intro l4 h4)))
       have k0 : W1.cell? ⟨w.heap.size, 0, none⟩ = some (.int .i64 0) := blk_cell HZ1.out 0
       have k1 : W1.cell? ⟨w.heap.size, 1, none⟩ = some (.int .i64 0) := blk_cell HZ1.out 1
       have k2 : W1.cell? ⟨w.heap.size, 2, none⟩ = some (.bool false) := blk_cell HZ1.out 2
       have k3 : W1.cell? ⟨w.heap.size, 3, none⟩ = some (.slice none 0 0) := blk_cell HZ1.out 3
       have k4 : W1.cell? ⟨w.heap.size, 4, none⟩ = some (.slice none 0 0) := blk_cell HZ1.out 4
       have kf0 := blk_frozen HZ1.out 0
       have kf1 := blk_frozen HZ1.out 1
       have kf2 := blk_frozen HZ1.out 2
       have kf3 := blk_frozen HZ1.out 3
       have kf4 := blk_frozen HZ1.out 4
       clear l3 h3 l4 h4 hB1 HO))
  try simp only [Exit.inBlock, Exit.then]
  obtain ⟨h5, hend⟩ := req_end HB1.out (Nat.le_refl _) HB0.out.size (fun k hk => by have := HS0.out; omega) HZ1.out HF.out.1 HF.out.2.1 HF.out.2.2.1 HF.out.2.2.2 rfl
  exact bodyPost_ret (results_ct (p := 8) (u := 9) rfl _ _ _ _ _ _ _ rfl h5 Tryd.underlying27 rfl size_ip) rfl hend

/-- the request as a packet -/
def pRenameFS (dn : ByteArray) (rd : ByteArray) (sp : ByteArray) : Pk := (addK (addK (addK (addK (bare 64 32 12 .nilIface ⟨#[77, 111, 100, 105, 102, 121, 32, 68, 78, 32, 82, 101, 113, 117, 101, 115, 116]⟩) (prim 0 0 4 (strV dn) (bytesOf dn) ⟨#[68, 78]⟩)) (prim 0 0 4 (strV rd) (bytesOf rd) ⟨#[78, 101, 119, 32, 82, 68, 78]⟩)) (prim 0 0 1 (.iface 4 (.bool false)) (whole 0) ⟨#[68, 101, 108, 101, 116, 101, 32, 111, 108, 100, 32, 82, 68, 78]⟩)) (prim 128 0 0 (strV sp) (bytesOf sp) ⟨#[78, 101, 119, 32, 83, 117, 112, 101, 114, 105, 111, 114]⟩))
theorem pRenameFS_fine (dn : ByteArray) (rd : ByteArray) (sp : ByteArray) (hdn : dn.size ≤ 1000000) (hrd : rd.size ≤ 1000000) (hsp : sp.size ≤ 1000000) : Fine (pRenameFS dn rd sp) 3000064 := (fine_add (fine_add (fine_add (fine_add (fine_bare _ _ _ _ _ (by decide) (by decide) (by decide) (Or.inr rfl) (by decide) (by decide)) (fine_str _ _ _ _ _ (by decide) (by decide) (by decide) (Or.inl rfl) (by decide) (by decide) hdn) (by decide)) (fine_str _ _ _ _ _ (by decide) (by decide) (by decide) (Or.inl rfl) (by decide) (by decide) hrd) (by decide)) (fine_prim _ _ _ _ _ _ (by decide) (by decide) (by decide) (Or.inl rfl) (by decide) (by decide) (whole_len 0 (by decide))) (by decide)) (fine_str _ _ _ _ _ (by decide) (by decide) (by decide) (Or.inl rfl) (by decide) (by decide) hsp) (by decide))
set_option maxHeartbeats 3200000 in
set_option maxRecDepth 100000 in
theorem appendTo_RenameFS (dn : ByteArray) (rd : ByteArray) (sp : ByteArray) (hdn : dn.size ≤ 1000000) (hrd : rd.size ≤ 1000000) (hsp : sp.size ≤ 1000000) (hne : sp.toList.isEmpty = false) (r base q n : Nat) (E : Pk) (w : World) (hE : At w w base q E) (tE : Top E n) (hn : n < 100000000000)
    (hr : w.heap[r]? = some (.cells #[.string dn, .string rd, .bool false, .string sp, .slice none 0 0] 158 (0, 0))) (hrb : r < base) :
    Calls Tryd.prog 135 #[.pointer (some ⟨r, 0, none⟩), .pointer (some ⟨q, 0, none⟩)] w fun e w' => e = .returned .nilIface ∧ At w' w' base q (addK E (pRenameFS dn rd sp)) ∧ Below base w w' := by
  have HE := Lib.hid hE
  have TE := Lib.hid tE
  have HR := Lib.hid hr
  have HRB := Lib.hid hrb
  have HT0 : Hid (Top (bare 64 32 12 .nilIface ⟨#[77, 111, 100, 105, 102, 121, 32, 68, 78, 32, 82, 101, 113, 117, 101, 115, 116]⟩) 0) := Lib.hid ((fine_bare _ _ _ _ _ (by decide) (by decide) (by decide) (Or.inr rfl) (by decide) (by decide))).1
  have HT1 : Hid (Top (prim 0 0 4 (strV dn) (bytesOf dn) ⟨#[68, 78]⟩) 1000000) := Lib.hid ((fine_str _ _ _ _ _ (by decide) (by decide) (by decide) (Or.inl rfl) (by decide) (by decide) hdn)).1
  have HT2 : Hid (Top (addK (bare 64 32 12 .nilIface ⟨#[77, 111, 100, 105, 102, 121, 32, 68, 78, 32, 82, 101, 113, 117, 101, 115, 116]⟩) (prim 0 0 4 (strV dn) (bytesOf dn) ⟨#[68, 78]⟩)) 1000014) := Lib.hid ((fine_add (fine_bare _ _ _ _ _ (by decide) (by decide) (by decide) (Or.inr rfl) (by decide) (by decide)) (fine_str _ _ _ _ _ (by decide) (by decide) (by decide) (Or.inl rfl) (by decide) (by decide) hdn) (by decide))).1
  have HT3 : Hid (Top (prim 0 0 4 (strV rd) (bytesOf rd) ⟨#[78, 101, 119, 32, 82, 68, 78]⟩) 1000000) := Lib.hid ((fine_str _ _ _ _ _ (by decide) (by decide) (by decide) (Or.inl rfl) (by decide) (by decide) hrd)).1
  have HT4 : Hid (Top (addK (addK (bare 64 32 12 .nilIface ⟨#[77, 111, 100, 105, 102, 121, 32, 68, 78, 32, 82, 101, 113, 117, 101, 115, 116]⟩) (prim 0 0 4 (strV dn) (bytesOf dn) ⟨#[68, 78]⟩)) (prim 0 0 4 (strV rd) (bytesOf rd) ⟨#[78, 101, 119, 32, 82, 68, 78]⟩)) 2000028) := Lib.hid ((fine_add (fine_add (fine_bare _ _ _ _ _ (by decide) (by decide) (by decide) (Or.inr rfl) (by decide) (by decide)) (fine_str _ _ _ _ _ (by decide) (by decide) (by decide) (Or.inl rfl) (by decide) (by decide) hdn) (by decide)) (fine_str _ _ _ _ _ (by decide) (by decide) (by decide) (Or.inl rfl) (by decide) (by decide) hrd) (by decide))).1
  have HT5 : Hid (Top (prim 0 0 1 (.iface 4 (.bool false)) (whole 0) ⟨#[68, 101, 108, 101, 116, 101, 32, 111, 108, 100, 32, 82, 68, 78]⟩) 8) := Lib.hid ((fine_prim _ _ _ _ _ _ (by decide) (by decide) (by decide) (Or.inl rfl) (by decide) (by decide) (whole_len 0 (by decide)))).1
  have HT6 : Hid (Top (addK (addK (addK (bare 64 32 12 .nilIface ⟨#[77, 111, 100, 105, 102, 121, 32, 68, 78, 32, 82, 101, 113, 117, 101, 115, 116]⟩) (prim 0 0 4 (strV dn) (bytesOf dn) ⟨#[68, 78]⟩)) (prim 0 0 4 (strV rd) (bytesOf rd) ⟨#[78, 101, 119, 32, 82, 68, 78]⟩)) (prim 0 0 1 (.iface 4 (.bool false)) (whole 0) ⟨#[68, 101, 108, 101, 116, 101, 32, 111, 108, 100, 32, 82, 68, 78]⟩)) 2000050) := Lib.hid ((fine_add (fine_add (fine_add (fine_bare _ _ _ _ _ (by decide) (by decide) (by decide) (Or.inr rfl) (by decide) (by decide)) (fine_str _ _ _ _ _ (by decide) (by decide) (by decide) (Or.inl rfl) (by decide) (by decide) hdn) (by decide)) (fine_str _ _ _ _ _ (by decide) (by decide) (by decide) (Or.inl rfl) (by decide) (by decide) hrd) (by decide)) (fine_prim _ _ _ _ _ _ (by decide) (by decide) (by decide) (Or.inl rfl) (by decide) (by decide) (whole_len 0 (by decide))) (by decide))).1
  have HT7 : Hid (Top (prim 128 0 0 (strV sp) (bytesOf sp) ⟨#[78, 101, 119, 32, 83, 117, 112, 101, 114, 105, 111, 114]⟩) 1000000) := Lib.hid ((fine_str _ _ _ _ _ (by decide) (by decide) (by decide) (Or.inl rfl) (by decide) (by decide) hsp)).1
  have HT8 : Hid (Top (addK (addK (addK (addK (bare 64 32 12 .nilIface ⟨#[77, 111, 100, 105, 102, 121, 32, 68, 78, 32, 82, 101, 113, 117, 101, 115, 116]⟩) (prim 0 0 4 (strV dn) (bytesOf dn) ⟨#[68, 78]⟩)) (prim 0 0 4 (strV rd) (bytesOf rd) ⟨#[78, 101, 119, 32, 82, 68, 78]⟩)) (prim 0 0 1 (.iface 4 (.bool false)) (whole 0) ⟨#[68, 101, 108, 101, 116, 101, 32, 111, 108, 100, 32, 82, 68, 78]⟩)) (prim 128 0 0 (strV sp) (bytesOf sp) ⟨#[78, 101, 119, 32, 83, 117, 112, 101, 114, 105, 111, 114]⟩)) 3000064) := Lib.hid ((fine_add (fine_add (fine_add (fine_add (fine_bare _ _ _ _ _ (by decide) (by decide) (by decide) (Or.inr rfl) (by decide) (by decide)) (fine_str _ _ _ _ _ (by decide) (by decide) (by decide) (Or.inl rfl) (by decide) (by decide) hdn) (by decide)) (fine_str _ _ _ _ _ (by decide) (by decide) (by decide) (Or.inl rfl) (by decide) (by decide) hrd) (by decide)) (fine_prim _ _ _ _ _ _ (by decide) (by decide) (by decide) (Or.inl rfl) (by decide) (by decide) (whole_len 0 (by decide))) (by decide)) (fine_str _ _ _ _ _ (by decide) (by decide) (by decide) (Or.inl rfl) (by decide) (by decide) hsp) (by decide))).1
  have HS : Hid (dn.size ≤ 140737488355328 ∧ rd.size ≤ 140737488355328 ∧ sp.size ≤ 140737488355328 ∧ ByteArray.empty.size ≤ 140737488355328) := Lib.hid (⟨by omega, by omega, by omega, by decide⟩)
  clear hE tE hr hrb hdn hrd hsp
  go_enter Tryd.func135, Tryd.ntmps135
  go_wp2_with (first
    | (go_at_call 87
       first
       | (with_reducible refine (encode_at 64 32 12 _ w).mono ?_
          rintro e W1 ⟨qp, rfl, hA, hB⟩
          have HAp_1 := Lib.hid hA
          have HZp : Hid (w.heap.size ≤ w.heap.size) := Lib.hid (Nat.le_refl _)
          have HB1 := Lib.hid (hB)
          have c1_0 : W1.cell? ⟨r, 0, none⟩ = some (.string dn) := blk_cell (blk_below HR.out HB1.out) 0
          clear hA hB))
    | (go_at_call 62
       first
       | (with_reducible refine (string_at 0 0 4 dn _ W1 HS.out.1).mono ?_
          rintro e W2 ⟨qc1, rfl, hA, hB⟩
          have HAc1_2 := Lib.hid hA
          have HLp_c1 := Lib.hid HAp_1.out.bel.size
          have HAp_2 := Lib.hid (HAp_1.out.on hB)
          have HB2 := Lib.hid (HB1.out.trans (hB.mono HB1.out.size))
          clear hA hB)
       | (with_reducible refine (string_at 0 0 4 rd _ W3 HS.out.2.1).mono ?_
          rintro e W4 ⟨qc3, rfl, hA, hB⟩
          have HAc3_4 := Lib.hid hA
          have HLp_c3 := Lib.hid HAp_3.out.bel.size
          have HAp_4 := Lib.hid (HAp_3.out.on hB)
          have HB4 := Lib.hid (HB3.out.trans (hB.mono HB3.out.size))
          clear hA hB)
       | (with_reducible refine (string_at 128 0 0 sp _ W7 HS.out.2.2.1).mono ?_
          rintro e W8 ⟨qc7, rfl, hA, hB⟩
          have HAc7_8 := Lib.hid hA
          have HLp_c7 := Lib.hid HAp_7.out.bel.size
          have HAp_8 := Lib.hid (HAp_7.out.on hB)
          have HB8 := Lib.hid (HB7.out.trans (hB.mono HB7.out.size))
          clear hA hB))
    | (go_at_call 93
       first
       | (with_reducible refine (app_at HAp_2.out HAc1_2.out HLp_c1.out HT0.out HT1.out (by decide) (by decide)).mono ?_
          rintro e W3 ⟨⟨u3_, rfl⟩, hA, hB⟩
          have HAp_3 := Lib.hid hA
          have HB3 := Lib.hid (HB2.out.trans (hB.mono HZp.out))
          have c3_1 : W3.cell? ⟨r, 1, none⟩ = some (.string rd) := blk_cell (blk_below HR.out HB3.out) 1
          clear hA hB)
       | (with_reducible refine (app_at HAp_4.out HAc3_4.out HLp_c3.out HT2.out HT3.out (by decide) (by decide)).mono ?_
          rintro e W5 ⟨⟨u5_, rfl⟩, hA, hB⟩
          have HAp_5 := Lib.hid hA
          have HB5 := Lib.hid (HB4.out.trans (hB.mono HZp.out))
          have c5_2 : W5.cell? ⟨r, 2, none⟩ = some (.bool false) := blk_cell (blk_below HR.out HB5.out) 2
          clear hA hB)
       | (with_reducible refine (app_at HAp_6.out HAc5_6.out HLp_c5.out HT4.out HT5.out (by decide) (by decide)).mono ?_
          rintro e W7 ⟨⟨u7_, rfl⟩, hA, hB⟩
          have HAp_7 := Lib.hid hA
          have HB7 := Lib.hid (HB6.out.trans (hB.mono HZp.out))
          have c7_3 : W7.cell? ⟨r, 3, none⟩ = some (.string sp) := blk_cell (blk_below HR.out HB7.out) 3
          clear hA hB)
       | (with_reducible refine (app_at HAp_8.out HAc7_8.out HLp_c7.out HT6.out HT7.out (by decide) (by decide)).mono ?_
          rintro e W9 ⟨⟨u9_, rfl⟩, hA, hB⟩
          have HAp_9 := Lib.hid hA
          have HB9 := Lib.hid (HB8.out.trans (hB.mono HZp.out))
          have c9_3 : W9.cell? ⟨r, 3, none⟩ = some (.string sp) := blk_cell (blk_below HR.out HB9.out) 3
          clear hA hB)
       | (with_reducible refine (app_at (HE.out.on HB9.out) HAp_9.out HZp.out TE.out HT8.out (by omega) (by decide)).mono ?_
          rintro e W10 ⟨⟨u10_, rfl⟩, hA, hB⟩
          have HAE := Lib.hid hA
          have HBE := Lib.hid ((HB9.out.mono HE.out.le).trans hB)
          have cE_4 : W10.cell? ⟨r, 4, none⟩ = some (.slice none 0 0) := blk_cell ((HBE.out.block r HRB.out).trans HR.out) 4
          clear hA hB))
    | (go_at_call 136
       first
       | (with_reducible refine (boolF_at 0 0 1 _ W5).mono ?_
          rintro e W6 ⟨qc5, rfl, hA, hB⟩
          have HAc5_6 := Lib.hid hA
          have HLp_c5 := Lib.hid HAp_5.out.bel.size
          have HAp_6 := Lib.hid (HAp_5.out.on hB)
          have HB6 := Lib.hid (HB5.out.trans (hB.mono HB5.out.size))
          clear hA hB)))
  go_ret
  exact ⟨rfl, HAE.out, HBE.out⟩

/-- the request as data -/
def dRenameFS (dn : ByteArray) (rd : ByteArray) (sp : ByteArray) : S27 := ⟨1, 12, true, [], [⟨0, 4, false, bytesOf dn, []⟩, ⟨0, 4, false, bytesOf rd, []⟩, ⟨0, 1, false, [0], []⟩, ⟨2, 0, false, bytesOf sp, []⟩]⟩
theorem tr_RenameFS (dn : ByteArray) (rd : ByteArray) (sp : ByteArray) : trOf (pRenameFS dn rd sp) = dRenameFS dn rd sp := by
  unfold pRenameFS dRenameFS addK bare prim
  simp [trOf, trL, bytes_ff, whole0]
theorem RenameFS_ta (r : Nat) : ∀ w : World, (Instr.typeAssert (.iface 93 (.pointer (some ⟨r, 0, none⟩))) 20 200 true).run Tryd.prog w = .ok (.tuple #[.iface 93 (.pointer (some ⟨r, 0, none⟩)), .bool true]) w := fun _ => by kernel_rfl
theorem RenameFS_m (r : Nat) : ∀ w : World, (method 366 93 (.pointer (some ⟨r, 0, none⟩)) "goldap/pub/goldap.appendTo").run Tryd.prog w = .ok (135, (.pointer (some ⟨r, 0, none⟩))) w := fun _ => by kernel_rfl
theorem RenameFS_cf : ∀ (args : Array Value) (w : World), (callFunc 135 args).run Tryd.prog w = .ok (.enter 135 args) w := fun _ _ => by kernel_rfl
set_option maxHeartbeats 3200000 in
set_option maxRecDepth 100000 in
theorem iRenameFS_any (dn rd sp : ByteArray) (w : World) (hdn : dn.size ≤ 1000000) (hrd : rd.size ≤ 1000000) (hsp : sp.size ≤ 1000000) (hne : sp.toList.isEmpty = false) :
    Calls Tryd.prog 15 #[.string dn, .string rd, .bool false, .string sp] w (OpRes w (dRenameFS dn rd sp)) := by
  obtain ⟨W0, hW0⟩ : ∃ W0, W0 = (w.alloc (.cells #[.int .i64 0, .int .i64 0, .bool false, .slice none 0 0, .slice none 0 0] 27)).alloc (.cells #[.string dn, .string rd, .bool false, .string sp, .slice none 0 0] 158) := ⟨_, rfl⟩
  have hb0 : Below w.heap.size w W0 := by rw [hW0]; exact below_alloc (below_alloc (Below.refl _ _) _) _
  have hs0 : w.heap.size + 2 ≤ W0.heap.size := by rw [hW0]; simp
  have hz0 : W0.heap[w.heap.size]? = some (.cells #[.int .i64 0, .int .i64 0, .bool false, .slice none 0 0, .slice none 0 0] 27 (0, 0)) := by rw [hW0]; exact blk_alloc (blk_new _ _) _
  have hr0 : W0.heap[w.heap.size + 1]? = some (.cells #[.string dn, .string rd, .bool false, .string sp, .slice none 0 0] 158 (0, 0)) := by
    have := blk_new (w.alloc (.cells #[.int .i64 0, .int .i64 0, .bool false, .slice none 0 0, .slice none 0 0] 27)) (.cells #[.string dn, .string rd, .bool false, .string sp, .slice none 0 0] 158)
    have e : (w.alloc (.cells #[.int .i64 0, .int .i64 0, .bool false, .slice none 0 0, .slice none 0 0] 27)).heap.size = w.heap.size + 1 := by simp
    rw [e, ← hW0] at this
    exact this
  have HO := Lib.hid (operation_any 93 135 (.pointer (some ⟨w.heap.size + 1, 0, none⟩)) (pRenameFS dn rd sp) W0 (RenameFS_ta _) (RenameFS_m _) RenameFS_cf
    (fun W hW q E n W' hE tE hn hb => appendTo_RenameFS dn rd sp hdn hrd hsp hne (w.heap.size + 1) W.heap.size q n E W' hE tE hn (blk_below (blk_below hr0 hW) hb) (by have := hW.size; omega))
    ((pRenameFS_fine dn rd sp hdn hrd hsp).ok (by decide)))
  rw [tr_RenameFS] at HO
  obtain ⟨y, hy⟩ : ∃ y, y = dRenameFS dn rd sp := ⟨_, rfl⟩
  rw [← hy] at HO ⊢
  have HB0 := Lib.hid hb0
  have HS0 := Lib.hid hs0
  have HZ0 := Lib.hid hz0
  have HW0 := Lib.hid hW0
  clear hy hb0 hs0 hz0 hr0 hW0 hdn hrd hsp
  go_enter Tryd.func15, Tryd.ntmps15
  go_wp2_with (first
    | (go_at_call 49; go_in)
    | (go_at_call 43
       rw [← HW0.out]
       with_reducible refine HO.out.mono ?_
       rintro e W1 ⟨A3, c3, A4, c4, rfl, l3, h3, l4, h4, hB1⟩
       have HZ1 := Lib.hid (blk_below HZ0.out hB1)
       have HB1 := Lib.hid (HB0.out.trans (hB1.mono HB0.out.size))
       have HF := Lib.hid (And.intro l3 (And.intro h3 (And.intro l4 h4)))
       have k0 : W1.cell? ⟨w.heap.size, 0, none⟩ = some (.int .i64 0) := blk_cell HZ1.out 0
       have k1 : W1.cell? ⟨w.heap.size, 1, none⟩ = some (.int .i64 0) := blk_cell HZ1.out 1
       have k2 : W1.cell? ⟨w.heap.size, 2, none⟩ = some (.bool false) := blk_cell HZ1.out 2
       have k3 : W1.cell? ⟨w.heap.size, 3, none⟩ = some (.slice none 0 0) := blk_cell HZ1.out 3
       have k4 : W1.cell? ⟨w.heap.size, 4, none⟩ = some (.slice none 0 0) := blk_cell HZ1.out 4
       have kf0 := blk_frozen HZ1.out 0
       have kf1 := blk_frozen HZ1.out 1
       have kf2 := blk_frozen HZ1.out 2
       have kf3 := blk_frozen HZ1.out 3
       have kf4 := blk_frozen HZ1.out 4
       clear l3 h3 l4 h4 hB1 HO))
  try simp only [Exit.inBlock, Exit.then]
  obtain ⟨h5, hend⟩ := req_end HB1.out (Nat.le_refl _) HB0.out.size (fun k hk => by have := HS0.out; omega) HZ1.out HF.out.1 HF.out.2.1 HF.out.2.2.1 HF.out.2.2.2 rfl
  exact bodyPost_ret (results_ct (p := 8) (u := 9) rfl _ _ _ _ _ _ _ rfl h5 Tryd.underlying27 rfl size_ip) rfl hend

/-- the request as a packet -/
def pRenameFN (dn : ByteArray) (rd : ByteArray) (sp : ByteArray) : Pk := (addK (addK (addK (bare 64 32 12 .nilIface ⟨#[77, 111, 100, 105, 102, 121, 32, 68, 78, 32, 82, 101, 113, 117, 101, 115, 116]⟩) (prim 0 0 4 (strV dn) (bytesOf dn) ⟨#[68, 78]⟩)) (prim 0 0 4 (strV rd) (bytesOf rd) ⟨#[78, 101, 119, 32, 82, 68, 78]⟩)) (prim 0 0 1 (.iface 4 (.bool false)) (whole 0) ⟨#[68, 101, 108, 101, 116, 101, 32, 111, 108, 100, 32, 82, 68, 78]⟩))
theorem pRenameFN_fine (dn : ByteArray) (rd : ByteArray) (sp : ByteArray) (hdn : dn.size ≤ 1000000) (hrd : rd.size ≤ 1000000) (hsp : sp.size ≤ 1000000) : Fine (pRenameFN dn rd sp) 2000050 := (fine_add (fine_add (fine_add (fine_bare _ _ _ _ _ (by decide) (by decide) (by decide) (Or.inr rfl) (by decide) (by decide)) (fine_str _ _ _ _ _ (by decide) (by decide) (by decide) (Or.inl rfl) (by decide) (by decide) hdn) (by decide)) (fine_str _ _ _ _ _ (by decide) (by decide) (by decide) (Or.inl rfl) (by decide) (by decide) hrd) (by decide)) (fine_prim _ _ _ _ _ _ (by decide) (by decide) (by decide) (Or.inl rfl) (by decide) (by decide) (whole_len 0 (by decide))) (by decide))
set_option maxHeartbeats 3200000 in
set_option maxRecDepth 100000 in
theorem appendTo_RenameFN (dn : ByteArray) (rd : ByteArray) (sp : ByteArray) (hdn : dn.size ≤ 1000000) (hrd : rd.size ≤ 1000000) (hsp : sp.size ≤ 1000000) (hne : sp.toList.isEmpty = true) (r base q n : Nat) (E : Pk) (w : World) (hE : At w w base q E) (tE : Top E n) (hn : n < 100000000000)
    (hr : w.heap[r]? = some (.cells #[.string dn, .string rd, .bool false, .string sp, .slice none 0 0] 158 (0, 0))) (hrb : r < base) :
    Calls Tryd.prog 135 #[.pointer (some ⟨r, 0, none⟩), .pointer (some ⟨q, 0, none⟩)] w fun e w' => e = .returned .nilIface ∧ At w' w' base q (addK E (pRenameFN dn rd sp)) ∧ Below base w w' := by
  have HE := Lib.hid hE
  have TE := Lib.hid tE
  have HR := Lib.hid hr
  have HRB := Lib.hid hrb
  have HT0 : Hid (Top (bare 64 32 12 .nilIface ⟨#[77, 111, 100, 105, 102, 121, 32, 68, 78, 32, 82, 101, 113, 117, 101, 115, 116]⟩) 0) := Lib.hid ((fine_bare _ _ _ _ _ (by decide) (by decide) (by decide) (Or.inr rfl) (by decide) (by decide))).1
  have HT1 : Hid (Top (prim 0 0 4 (strV dn) (bytesOf dn) ⟨#[68, 78]⟩) 1000000) := Lib.hid ((fine_str _ _ _ _ _ (by decide) (by decide) (by decide) (Or.inl rfl) (by decide) (by decide) hdn)).1
  have HT2 : Hid (Top (addK (bare 64 32 12 .nilIface ⟨#[77, 111, 100, 105, 102, 121, 32, 68, 78, 32, 82, 101, 113, 117, 101, 115, 116]⟩) (prim 0 0 4 (strV dn) (bytesOf dn) ⟨#[68, 78]⟩)) 1000014) := Lib.hid ((fine_add (fine_bare _ _ _ _ _ (by decide) (by decide) (by decide) (Or.inr rfl) (by decide) (by decide)) (fine_str _ _ _ _ _ (by decide) (by decide) (by decide) (Or.inl rfl) (by decide) (by decide) hdn) (by decide))).1
  have HT3 : Hid (Top (prim 0 0 4 (strV rd) (bytesOf rd) ⟨#[78, 101, 119, 32, 82, 68, 78]⟩) 1000000) := Lib.hid ((fine_str _ _ _ _ _ (by decide) (by decide) (by decide) (Or.inl rfl) (by decide) (by decide) hrd)).1
  have HT4 : Hid (Top (addK (addK (bare 64 32 12 .nilIface ⟨#[77, 111, 100, 105, 102, 121, 32, 68, 78, 32, 82, 101, 113, 117, 101, 115, 116]⟩) (prim 0 0 4 (strV dn) (bytesOf dn) ⟨#[68, 78]⟩)) (prim 0 0 4 (strV rd) (bytesOf rd) ⟨#[78, 101, 119, 32, 82, 68, 78]⟩)) 2000028) := Lib.hid ((fine_add (fine_add (fine_bare _ _ _ _ _ (by decide) (by decide) (by decide) (Or.inr rfl) (by decide) (by decide)) (fine_str _ _ _ _ _ (by decide) (by decide) (by decide) (Or.inl rfl) (by decide) (by decide) hdn) (by decide)) (fine_str _ _ _ _ _ (by decide) (by decide) (by decide) (Or.inl rfl) (by decide) (by decide) hrd) (by decide))).1
  have HT5 : Hid (Top (prim 0 0 1 (.iface 4 (.bool false)) (whole 0) ⟨#[68, 101, 108, 101, 116, 101, 32, 111, 108, 100, 32, 82, 68, 78]⟩) 8) := Lib.hid ((fine_prim _ _ _ _ _ _ (by decide) (by decide) (by decide) (Or.inl rfl) (by decide) (by decide) (whole_len 0 (by decide)))).1
  have HT6 : Hid (Top (addK (addK (addK (bare 64 32 12 .nilIface ⟨#[77, 111, 100, 105, 102, 121, 32, 68, 78, 32, 82, 101, 113, 117, 101, 115, 116]⟩) (prim 0 0 4 (strV dn) (bytesOf dn) ⟨#[68, 78]⟩)) (prim 0 0 4 (strV rd) (bytesOf rd) ⟨#[78, 101, 119, 32, 82, 68, 78]⟩)) (prim 0 0 1 (.iface 4 (.bool false)) (whole 0) ⟨#[68, 101, 108, 101, 116, 101, 32, 111, 108, 100, 32, 82, 68, 78]⟩)) 2000050) := Lib.hid ((fine_add (fine_add (fine_add (fine_bare _ _ _ _ _ (by decide) (by decide) (by decide) (Or.inr rfl) (by decide) (by decide)) (fine_str _ _ _ _ _ (by decide) (by decide) (by decide) (Or.inl rfl) (by decide) (by decide) hdn) (by decide)) (fine_str _ _ _ _ _ (by decide) (by decide) (by decide) (Or.inl rfl) (by decide) (by decide) hrd) (by decide)) (fine_prim _ _ _ _ _ _ (by decide) (by decide) (by decide) (Or.inl rfl) (by decide) (by decide) (whole_len 0 (by decide))) (by decide))).1
  have HS : Hid (dn.size ≤ 140737488355328 ∧ rd.size ≤ 140737488355328 ∧ sp.size ≤ 140737488355328 ∧ ByteArray.empty.size ≤ 140737488355328) := Lib.hid (⟨by omega, by omega, by omega, by decide⟩)
  clear hE tE hr hrb hdn hrd hsp
  go_enter Tryd.func135, Tryd.ntmps135
  go_wp2_with (first
    | (go_at_call 87
       first
       | (with_reducible refine (encode_at 64 32 12 _ w).mono ?_
          rintro e W1 ⟨qp, rfl, hA, hB⟩
          have HAp_1 := Lib.hid hA
          have HZp : Hid (w.heap.size ≤ w.heap.size) := Lib.hid (Nat.le_refl _)
          have HB1 := Lib.hid (hB)
          have c1_0 : W1.cell? ⟨r, 0, none⟩ = some (.string dn) := blk_cell (blk_below HR.out HB1.out) 0
          clear hA hB))
    | (go_at_call 62
       first
       | (with_reducible refine (string_at 0 0 4 dn _ W1 HS.out.1).mono ?_
          rintro e W2 ⟨qc1, rfl, hA, hB⟩
          have HAc1_2 := Lib.hid hA
          have HLp_c1 := Lib.hid HAp_1.out.bel.size
          have HAp_2 := Lib.hid (HAp_1.out.on hB)
          have HB2 := Lib.hid (HB1.out.trans (hB.mono HB1.out.size))
          clear hA hB)
       | (with_reducible refine (string_at 0 0 4 rd _ W3 HS.out.2.1).mono ?_
          rintro e W4 ⟨qc3, rfl, hA, hB⟩
          have HAc3_4 := Lib.hid hA
          have HLp_c3 := Lib.hid HAp_3.out.bel.size
          have HAp_4 := Lib.hid (HAp_3.out.on hB)
          have HB4 := Lib.hid (HB3.out.trans (hB.mono HB3.out.size))
          clear hA hB))
    | (go_at_call 93
       first
       | (with_reducible refine (app_at HAp_2.out HAc1_2.out HLp_c1.out HT0.out HT1.out (by decide) (by decide)).mono ?_
          rintro e W3 ⟨⟨u3_, rfl⟩, hA, hB⟩
          have HAp_3 := Lib.hid hA
          have HB3 := Lib.hid (HB2.out.trans (hB.mono HZp.out))
          have c3_1 : W3.cell? ⟨r, 1, none⟩ = some (.string rd) := blk_cell (blk_below HR.out HB3.out) 1
          clear hA hB)
       | (with_reducible refine (app_at HAp_4.out HAc3_4.out HLp_c3.out HT2.out HT3.out (by decide) (by decide)).mono ?_
          rintro e W5 ⟨⟨u5_, rfl⟩, hA, hB⟩
          have HAp_5 := Lib.hid hA
          have HB5 := Lib.hid (HB4.out.trans (hB.mono HZp.out))
          have c5_2 : W5.cell? ⟨r, 2, none⟩ = some (.bool false) := blk_cell (blk_below HR.out HB5.out) 2
          clear hA hB)
       | (with_reducible refine (app_at HAp_6.out HAc5_6.out HLp_c5.out HT4.out HT5.out (by decide) (by decide)).mono ?_
          rintro e W7 ⟨⟨u7_, rfl⟩, hA, hB⟩
          have HAp_7 := Lib.hid hA
          have HB7 := Lib.hid (HB6.out.trans (hB.mono HZp.out))
          have c7_3 : W7.cell? ⟨r, 3, none⟩ = some (.string sp) := blk_cell (blk_below HR.out HB7.out) 3
          clear hA hB)
       | (with_reducible refine (app_at (HE.out.on HB7.out) HAp_7.out HZp.out TE.out HT6.out (by omega) (by decide)).mono ?_
          rintro e W8 ⟨⟨u8_, rfl⟩, hA, hB⟩
          have HAE := Lib.hid hA
          have HBE := Lib.hid ((HB7.out.mono HE.out.le).trans hB)
          have cE_4 : W8.cell? ⟨r, 4, none⟩ = some (.slice none 0 0) := blk_cell ((HBE.out.block r HRB.out).trans HR.out) 4
          clear hA hB))
    | (go_at_call 136
       first
       | (with_reducible refine (boolF_at 0 0 1 _ W5).mono ?_
          rintro e W6 ⟨qc5, rfl, hA, hB⟩
          have HAc5_6 := Lib.hid hA
          have HLp_c5 := Lib.hid HAp_5.out.bel.size
          have HAp_6 := Lib.hid (HAp_5.out.on hB)
          have HB6 := Lib.hid (HB5.out.trans (hB.mono HB5.out.size))
          clear hA hB)))
  go_ret
  exact ⟨rfl, HAE.out, HBE.out⟩

/-- the request as data -/
def dRenameFN (dn : ByteArray) (rd : ByteArray) (sp : ByteArray) : S27 := ⟨1, 12, true, [], [⟨0, 4, false, bytesOf dn, []⟩, ⟨0, 4, false, bytesOf rd, []⟩, ⟨0, 1, false, [0], []⟩]⟩
theorem tr_RenameFN (dn : ByteArray) (rd : ByteArray) (sp : ByteArray) : trOf (pRenameFN dn rd sp) = dRenameFN dn rd sp := by
  unfold pRenameFN dRenameFN addK bare prim
  simp [trOf, trL, bytes_ff, whole0]
theorem RenameFN_ta (r : Nat) : ∀ w : World, (Instr.typeAssert (.iface 93 (.pointer (some ⟨r, 0, none⟩))) 20 200 true).run Tryd.prog w = .ok (.tuple #[.iface 93 (.pointer (some ⟨r, 0, none⟩)), .bool true]) w := fun _ => by kernel_rfl
theorem RenameFN_m (r : Nat) : ∀ w : World, (method 366 93 (.pointer (some ⟨r, 0, none⟩)) "goldap/pub/goldap.appendTo").run Tryd.prog w = .ok (135, (.pointer (some ⟨r, 0, none⟩))) w := fun _ => by kernel_rfl
theorem RenameFN_cf : ∀ (args : Array Value) (w : World), (callFunc 135 args).run Tryd.prog w = .ok (.enter 135 args) w := fun _ _ => by kernel_rfl
set_option maxHeartbeats 3200000 in
set_option maxRecDepth 100000 in
theorem iRenameFN_any (dn rd sp : ByteArray) (w : World) (hdn : dn.size ≤ 1000000) (hrd : rd.size ≤ 1000000) (hsp : sp.size ≤ 1000000) (hne : sp.toList.isEmpty = true) :
    Calls Tryd.prog 15 #[.string dn, .string rd, .bool false, .string sp] w (OpRes w (dRenameFN dn rd sp)) := by
  obtain ⟨W0, hW0⟩ : ∃ W0, W0 = (w.alloc (.cells #[.int .i64 0, .int .i64 0, .bool false, .slice none 0 0, .slice none 0 0] 27)).alloc (.cells #[.string dn, .string rd, .bool false, .string sp, .slice none 0 0] 158) := ⟨_, rfl⟩
  have hb0 : Below w.heap.size w W0 := by rw [hW0]; exact below_alloc (below_alloc (Below.refl _ _) _) _
  have hs0 : w.heap.size + 2 ≤ W0.heap.size := by rw [hW0]; simp
  have hz0 : W0.heap[w.heap.size]? = some (.cells #[.int .i64 0, .int .i64 0, .bool false, .slice none 0 0, .slice none 0 0] 27 (0, 0)) := by rw [hW0]; exact blk_alloc (blk_new _ _) _
  have hr0 : W0.heap[w.heap.size + 1]? = some (.cells #[.string dn, .string rd, .bool false, .string sp, .slice none 0 0] 158 (0, 0)) := by
    have := blk_new (w.alloc (.cells #[.int .i64 0, .int .i64 0, .bool false, .slice none 0 0, .slice none 0 0] 27)) (.cells #[.string dn, .string rd, .bool false, .string sp, .slice none 0 0] 158)
    have e : (w.alloc (.cells #[.int .i64 0, .int .i64 0, .bool false, .slice none 0 0, .slice none 0 0] 27)).heap.size = w.heap.size + 1 := by simp
    rw [e, ← hW0] at this
    exact this
  have HO := Lib.hid (operation_any 93 135 (.pointer (some ⟨w.heap.size + 1, 0, none⟩)) (pRenameFN dn rd sp) W0 (RenameFN_ta _) (RenameFN_m _) RenameFN_cf
    (fun W hW q E n W' hE tE hn hb => appendTo_RenameFN dn rd sp hdn hrd hsp hne (w.heap.size + 1) W.heap.size q n E W' hE tE hn (blk_below (blk_below hr0 hW) hb) (by have := hW.size; omega))
    ((pRenameFN_fine dn rd sp hdn hrd hsp).ok (by decide)))
  rw [tr_RenameFN] at HO
  obtain ⟨y, hy⟩ : ∃ y, y = dRenameFN dn rd sp := ⟨_, rfl⟩
  rw [← hy] at HO ⊢
  have HB0 := Lib.hid hb0
  have HS0 := Lib.hid hs0
  have HZ0 := Lib.hid hz0
  have HW0 := Lib.hid hW0
  clear hy hb0 hs0 hz0 hr0 hW0 hdn hrd hsp
  go_enter Tryd.func15, Tryd.ntmps15
  go_wp2_with (first
    | (go_at_call 49; go_in)
    | (go_at_call 43
       rw [← HW0.out]
       with_reducible refine HO.out.mono ?_
       rintro e W1 ⟨A3, c3, A4, c4, rfl, l3, h3, l4, h4, hB1⟩
       have HZ1 := Lib.hid (blk_below HZ0.out hB1)
       have HB1 := Lib.hid (HB0.out.trans (hB1.mono HB0.out.size))
       have HF := Lib.hid (And.intro l3 (And.intro h3 (And.intro l4 h4)))
       have k0 : W1.cell? ⟨w.heap.size, 0, none⟩ = some (.int .i64 0) := blk_cell HZ1.out 0
       have k1 : W1.cell? ⟨w.heap.size, 1, none⟩ = some (.int .i64 0) := blk_cell HZ1.out 1
       have k2 : W1.cell? ⟨w.heap.size, 2, none⟩ = some (.bool false) := blk_cell HZ1.out 2
       have k3 : W1.cell? ⟨w.heap.size, 3, none⟩ = some (.slice none 0 0) := blk_cell HZ1.out 3
       have k4 : W1.cell? ⟨w.heap.size, 4, none⟩ = some (.slice none 0 0) := blk_cell HZ1.out 4
       have kf0 := blk_frozen HZ1.out 0
       have kf1 := blk_frozen HZ1.out 1
       have kf2 := blk_frozen HZ1.out 2
       have kf3 := blk_frozen HZ1.out 3
       have kf4 := blk_frozen HZ1.out 4
       clear l3 h3 l4 h4 hB1 HO))
  try simp only [Exit.inBlock, Exit.then]
  obtain ⟨h5, hend⟩ := req_end HB1.out (Nat.le_refl _) HB0.out.size (fun k hk => by have := HS0.out; omega) HZ1.out HF.out.1 HF.out.2.1 HF.out.2.2.1 HF.out.2.2.2 rfl
  exact bodyPost_ret (results_ct (p := 8) (u := 9) rfl _ _ _ _ _ _ _ rfl h5 Tryd.underlying27 rfl size_ip) rfl hend

end Go.Proofs.YtbmcpjkhnhbjdaaDoor.Ber
