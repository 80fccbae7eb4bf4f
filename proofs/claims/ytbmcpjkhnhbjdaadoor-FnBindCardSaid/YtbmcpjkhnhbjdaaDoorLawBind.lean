/- The requests to bind and to unbind: the package's packets, the reference's, and the law FnBind walked: whatever texts, it answers true. -/
import Derived.Test.YtbmcpjkhnhbjdaaDoorReq
import Derived.Test.YtbmcpjkhnhbjdaaDoorPFnEncodex1
namespace Go.Proofs.YtbmcpjkhnhbjdaaDoor.Ber
open Go.RowKit Go.Proofs.YtbmcpjkhnhbjdaaDoorW.PrintWords Go.Proofs.YtbmcpjkhnhbjdaaDoor.PFnEncode Go.Proofs.YtbmcpjkhnhbjdaaDoor.Tree Go.Proofs.YtbmcpjkhnhbjdaaDoor.Buf Go.Proofs.YtbmcpjkhnhbjdaaDoor.Pk Go.Proofs.YtbmcpjkhnhbjdaaDoor.Within Go.Proofs.YtbmcpjkhnhbjdaaDoor.Num
set_option linter.unusedVariables false
set_option linter.unusedSimpArgs false

/-- the request as a packet -/
def pBind (nm : ByteArray) (pw : ByteArray) : Pk := (addK (addK (addK (bare 64 32 0 .nilIface ⟨#[66, 105, 110, 100, 32, 82, 101, 113, 117, 101, 115, 116]⟩) (prim 0 0 2 (.iface 3 (.int .i64 3)) (whole 3) ⟨#[86, 101, 114, 115, 105, 111, 110]⟩)) (prim 0 0 4 (strV nm) (bytesOf nm) ⟨#[85, 115, 101, 114, 32, 78, 97, 109, 101]⟩)) (prim 128 0 0 (strV pw) (bytesOf pw) ⟨#[80, 97, 115, 115, 119, 111, 114, 100]⟩))
theorem pBind_fine (nm : ByteArray) (pw : ByteArray) (hnm : nm.size ≤ 1000000) (hpw : pw.size ≤ 1000000) : Fine (pBind nm pw) 2000050 := (fine_add (fine_add (fine_add (fine_bare _ _ _ _ _ (by decide) (by decide) (by decide) (Or.inr rfl) (by decide) (by decide)) (fine_prim _ _ _ _ _ _ (by decide) (by decide) (by decide) (Or.inl rfl) (by decide) (by decide) (whole_len 3 (by decide))) (by decide)) (fine_str _ _ _ _ _ (by decide) (by decide) (by decide) (Or.inl rfl) (by decide) (by decide) hnm) (by decide)) (fine_str _ _ _ _ _ (by decide) (by decide) (by decide) (Or.inl rfl) (by decide) (by decide) hpw) (by decide))
set_option maxHeartbeats 3200000 in
set_option maxRecDepth 100000 in
theorem appendTo_Bind (nm : ByteArray) (pw : ByteArray) (hnm : nm.size ≤ 1000000) (hpw : pw.size ≤ 1000000) (r base q n : Nat) (E : Pk) (w : World) (hE : At w w base q E) (tE : Top E n) (hn : n < 100000000000)
    (hr : w.heap[r]? = some (.cells #[.string nm, .string pw, .slice none 0 0, .bool false] 160 (0, 0))) (hrb : r < base) :
    Calls Tryd.prog 138 #[.pointer (some ⟨r, 0, none⟩), .pointer (some ⟨q, 0, none⟩)] w fun e w' => e = .returned .nilIface ∧ At w' w' base q (addK E (pBind nm pw)) ∧ Below base w w' := by
  have HE := Lib.hid hE
  have TE := Lib.hid tE
  have HR := Lib.hid hr
  have HRB := Lib.hid hrb
  have HT0 : Hid (Top (bare 64 32 0 .nilIface ⟨#[66, 105, 110, 100, 32, 82, 101, 113, 117, 101, 115, 116]⟩) 0) := Lib.hid ((fine_bare _ _ _ _ _ (by decide) (by decide) (by decide) (Or.inr rfl) (by decide) (by decide))).1
  have HT1 : Hid (Top (prim 0 0 2 (.iface 3 (.int .i64 3)) (whole 3) ⟨#[86, 101, 114, 115, 105, 111, 110]⟩) 8) := Lib.hid ((fine_prim _ _ _ _ _ _ (by decide) (by decide) (by decide) (Or.inl rfl) (by decide) (by decide) (whole_len 3 (by decide)))).1
  have HT2 : Hid (Top (addK (bare 64 32 0 .nilIface ⟨#[66, 105, 110, 100, 32, 82, 101, 113, 117, 101, 115, 116]⟩) (prim 0 0 2 (.iface 3 (.int .i64 3)) (whole 3) ⟨#[86, 101, 114, 115, 105, 111, 110]⟩)) 22) := Lib.hid ((fine_add (fine_bare _ _ _ _ _ (by decide) (by decide) (by decide) (Or.inr rfl) (by decide) (by decide)) (fine_prim _ _ _ _ _ _ (by decide) (by decide) (by decide) (Or.inl rfl) (by decide) (by decide) (whole_len 3 (by decide))) (by decide))).1
  have HT3 : Hid (Top (prim 0 0 4 (strV nm) (bytesOf nm) ⟨#[85, 115, 101, 114, 32, 78, 97, 109, 101]⟩) 1000000) := Lib.hid ((fine_str _ _ _ _ _ (by decide) (by decide) (by decide) (Or.inl rfl) (by decide) (by decide) hnm)).1
  have HT4 : Hid (Top (addK (addK (bare 64 32 0 .nilIface ⟨#[66, 105, 110, 100, 32, 82, 101, 113, 117, 101, 115, 116]⟩) (prim 0 0 2 (.iface 3 (.int .i64 3)) (whole 3) ⟨#[86, 101, 114, 115, 105, 111, 110]⟩)) (prim 0 0 4 (strV nm) (bytesOf nm) ⟨#[85, 115, 101, 114, 32, 78, 97, 109, 101]⟩)) 1000036) := Lib.hid ((fine_add (fine_add (fine_bare _ _ _ _ _ (by decide) (by decide) (by decide) (Or.inr rfl) (by decide) (by decide)) (fine_prim _ _ _ _ _ _ (by decide) (by decide) (by decide) (Or.inl rfl) (by decide) (by decide) (whole_len 3 (by decide))) (by decide)) (fine_str _ _ _ _ _ (by decide) (by decide) (by decide) (Or.inl rfl) (by decide) (by decide) hnm) (by decide))).1
  have HT5 : Hid (Top (prim 128 0 0 (strV pw) (bytesOf pw) ⟨#[80, 97, 115, 115, 119, 111, 114, 100]⟩) 1000000) := Lib.hid ((fine_str _ _ _ _ _ (by decide) (by decide) (by decide) (Or.inl rfl) (by decide) (by decide) hpw)).1
  have HT6 : Hid (Top (addK (addK (addK (bare 64 32 0 .nilIface ⟨#[66, 105, 110, 100, 32, 82, 101, 113, 117, 101, 115, 116]⟩) (prim 0 0 2 (.iface 3 (.int .i64 3)) (whole 3) ⟨#[86, 101, 114, 115, 105, 111, 110]⟩)) (prim 0 0 4 (strV nm) (bytesOf nm) ⟨#[85, 115, 101, 114, 32, 78, 97, 109, 101]⟩)) (prim 128 0 0 (strV pw) (bytesOf pw) ⟨#[80, 97, 115, 115, 119, 111, 114, 100]⟩)) 2000050) := Lib.hid ((fine_add (fine_add (fine_add (fine_bare _ _ _ _ _ (by decide) (by decide) (by decide) (Or.inr rfl) (by decide) (by decide)) (fine_prim _ _ _ _ _ _ (by decide) (by decide) (by decide) (Or.inl rfl) (by decide) (by decide) (whole_len 3 (by decide))) (by decide)) (fine_str _ _ _ _ _ (by decide) (by decide) (by decide) (Or.inl rfl) (by decide) (by decide) hnm) (by decide)) (fine_str _ _ _ _ _ (by decide) (by decide) (by decide) (Or.inl rfl) (by decide) (by decide) hpw) (by decide))).1
  have HS : Hid (nm.size ≤ 140737488355328 ∧ pw.size ≤ 140737488355328 ∧ ByteArray.empty.size ≤ 140737488355328) := Lib.hid (⟨by omega, by omega, by decide⟩)
  clear hE tE hr hrb hnm hpw
  go_enter Tryd.func138, Tryd.ntmps138
  go_wp2_with (first
    | (go_at_call 87
       first
       | (with_reducible refine (encode_at 64 32 0 _ w).mono ?_
          rintro e W1 ⟨qp, rfl, hA, hB⟩
          have HAp_1 := Lib.hid hA
          have HZp : Hid (w.heap.size ≤ w.heap.size) := Lib.hid (Nat.le_refl _)
          have HB1 := Lib.hid (hB)
          clear hA hB))
    | (go_at_call 103
       first
       | (with_reducible refine (intI_at 0 0 2 3 _ W1 (by decide)).mono ?_
          rintro e W2 ⟨qc1, rfl, hA, hB⟩
          have HAc1_2 := Lib.hid hA
          have HLp_c1 := Lib.hid HAp_1.out.bel.size
          have HAp_2 := Lib.hid (HAp_1.out.on hB)
          have HB2 := Lib.hid (HB1.out.trans (hB.mono HB1.out.size))
          clear hA hB))
    | (go_at_call 93
       first
       | (with_reducible refine (app_at HAp_2.out HAc1_2.out HLp_c1.out HT0.out HT1.out (by decide) (by decide)).mono ?_
          rintro e W3 ⟨⟨u3_, rfl⟩, hA, hB⟩
          have HAp_3 := Lib.hid hA
          have HB3 := Lib.hid (HB2.out.trans (hB.mono HZp.out))
          have c3_0 : W3.cell? ⟨r, 0, none⟩ = some (.string nm) := blk_cell (blk_below HR.out HB3.out) 0
          clear hA hB)
       | (with_reducible refine (app_at HAp_4.out HAc3_4.out HLp_c3.out HT2.out HT3.out (by decide) (by decide)).mono ?_
          rintro e W5 ⟨⟨u5_, rfl⟩, hA, hB⟩
          have HAp_5 := Lib.hid hA
          have HB5 := Lib.hid (HB4.out.trans (hB.mono HZp.out))
          have c5_1 : W5.cell? ⟨r, 1, none⟩ = some (.string pw) := blk_cell (blk_below HR.out HB5.out) 1
          clear hA hB)
       | (with_reducible refine (app_at HAp_6.out HAc5_6.out HLp_c5.out HT4.out HT5.out (by decide) (by decide)).mono ?_
          rintro e W7 ⟨⟨u7_, rfl⟩, hA, hB⟩
          have HAp_7 := Lib.hid hA
          have HB7 := Lib.hid (HB6.out.trans (hB.mono HZp.out))
          clear hA hB)
       | (with_reducible refine (app_at (HE.out.on HB7.out) HAp_7.out HZp.out TE.out HT6.out (by omega) (by decide)).mono ?_
          rintro e W8 ⟨⟨u8_, rfl⟩, hA, hB⟩
          have HAE := Lib.hid hA
          have HBE := Lib.hid ((HB7.out.mono HE.out.le).trans hB)
          have cE_2 : W8.cell? ⟨r, 2, none⟩ = some (.slice none 0 0) := blk_cell ((HBE.out.block r HRB.out).trans HR.out) 2
          clear hA hB))
    | (go_at_call 62
       first
       | (with_reducible refine (string_at 0 0 4 nm _ W3 HS.out.1).mono ?_
          rintro e W4 ⟨qc3, rfl, hA, hB⟩
          have HAc3_4 := Lib.hid hA
          have HLp_c3 := Lib.hid HAp_3.out.bel.size
          have HAp_4 := Lib.hid (HAp_3.out.on hB)
          have HB4 := Lib.hid (HB3.out.trans (hB.mono HB3.out.size))
          clear hA hB)
       | (with_reducible refine (string_at 128 0 0 pw _ W5 HS.out.2.1).mono ?_
          rintro e W6 ⟨qc5, rfl, hA, hB⟩
          have HAc5_6 := Lib.hid hA
          have HLp_c5 := Lib.hid HAp_5.out.bel.size
          have HAp_6 := Lib.hid (HAp_5.out.on hB)
          have HB6 := Lib.hid (HB5.out.trans (hB.mono HB5.out.size))
          clear hA hB)))
  go_ret
  exact ⟨rfl, HAE.out, HBE.out⟩

/-- the request as data -/
def dBind (nm : ByteArray) (pw : ByteArray) : S27 := ⟨1, 0, true, [], [⟨0, 2, false, whole 3, []⟩, ⟨0, 4, false, bytesOf nm, []⟩, ⟨2, 0, false, bytesOf pw, []⟩]⟩
theorem tr_Bind (nm : ByteArray) (pw : ByteArray) : trOf (pBind nm pw) = dBind nm pw := by
  unfold pBind dBind addK bare prim
  simp [trOf, trL]
theorem Bind_ta (r : Nat) : ∀ w : World, (Instr.typeAssert (.iface 97 (.pointer (some ⟨r, 0, none⟩))) 20 200 true).run Tryd.prog w = .ok (.tuple #[.iface 97 (.pointer (some ⟨r, 0, none⟩)), .bool true]) w := fun _ => by kernel_rfl
theorem Bind_m (r : Nat) : ∀ w : World, (method 366 97 (.pointer (some ⟨r, 0, none⟩)) "goldap/pub/goldap.appendTo").run Tryd.prog w = .ok (138, (.pointer (some ⟨r, 0, none⟩))) w := fun _ => by kernel_rfl
theorem Bind_cf : ∀ (args : Array Value) (w : World), (callFunc 138 args).run Tryd.prog w = .ok (.enter 138 args) w := fun _ _ => by kernel_rfl
set_option maxHeartbeats 3200000 in
set_option maxRecDepth 100000 in
theorem iBind_any (nm pw : ByteArray) (w : World) (hnm : nm.size ≤ 1000000) (hpw : pw.size ≤ 1000000) :
    Calls Tryd.prog 17 #[.string nm, .string pw] w (OpRes w (dBind nm pw)) := by
  obtain ⟨W0, hW0⟩ : ∃ W0, W0 = (w.alloc (.cells #[.int .i64 0, .int .i64 0, .bool false, .slice none 0 0, .slice none 0 0] 27)).alloc (.cells #[.string nm, .string pw, .slice none 0 0, .bool false] 160) := ⟨_, rfl⟩
  have hb0 : Below w.heap.size w W0 := by rw [hW0]; exact below_alloc (below_alloc (Below.refl _ _) _) _
  have hs0 : w.heap.size + 2 ≤ W0.heap.size := by rw [hW0]; simp
  have hz0 : W0.heap[w.heap.size]? = some (.cells #[.int .i64 0, .int .i64 0, .bool false, .slice none 0 0, .slice none 0 0] 27 (0, 0)) := by rw [hW0]; exact blk_alloc (blk_new _ _) _
  have hr0 : W0.heap[w.heap.size + 1]? = some (.cells #[.string nm, .string pw, .slice none 0 0, .bool false] 160 (0, 0)) := by
    have := blk_new (w.alloc (.cells #[.int .i64 0, .int .i64 0, .bool false, .slice none 0 0, .slice none 0 0] 27)) (.cells #[.string nm, .string pw, .slice none 0 0, .bool false] 160)
    have e : (w.alloc (.cells #[.int .i64 0, .int .i64 0, .bool false, .slice none 0 0, .slice none 0 0] 27)).heap.size = w.heap.size + 1 := by simp
    rw [e, ← hW0] at this
    exact this
  have HO := Lib.hid (operation_any 97 138 (.pointer (some ⟨w.heap.size + 1, 0, none⟩)) (pBind nm pw) W0 (Bind_ta _) (Bind_m _) Bind_cf
    (fun W hW q E n W' hE tE hn hb => appendTo_Bind nm pw hnm hpw (w.heap.size + 1) W.heap.size q n E W' hE tE hn (blk_below (blk_below hr0 hW) hb) (by have := hW.size; omega))
    ((pBind_fine nm pw hnm hpw).ok (by decide)))
  rw [tr_Bind] at HO
  obtain ⟨y, hy⟩ : ∃ y, y = dBind nm pw := ⟨_, rfl⟩
  rw [← hy] at HO ⊢
  have HB0 := Lib.hid hb0
  have HS0 := Lib.hid hs0
  have HZ0 := Lib.hid hz0
  have HW0 := Lib.hid hW0
  clear hy hb0 hs0 hz0 hr0 hW0 hnm hpw
  go_enter Tryd.func17, Tryd.ntmps17
  go_wp2_with (first
    | (go_at_call 52; go_in)
    | (go_at_call 43
       rw [← HW0.out]
       with_reducible refine HO.out.mono ?_
       rintro e W1 ⟨A3, c3, A4, c4, rfl, l3, h3, l4, h4, hB1⟩
       have HZ1 := Lib.hid (blk_below HZ0.out hB1)
       have HB1 := Lib.hid (HB0.out.trans (hB1.mono HB0.out.size))
       have HF := Lib.hid (And.intro l3 (And.intro h3 (And.intro l4 h4)))
       have k0 : W1.cell? ⟨w.heap.size, 0, none⟩ = some (.int .i64 0) := blk_cell HZ1.out 0
       have k1 : W1.cell? ⟨w.heap.size, 1, none⟩ = some (.int .i64 0) := blk_cell HZ1.out 1
       have k2 : W1.cell? ⟨w.heap.size, 2, none⟩ = some (.bool false) := blk_cell HZ1.out 2
       have k3 : W1.cell? ⟨w.heap.size, 3, none⟩ = some (.slice none 0 0) := blk_cell HZ1.out 3
       have k4 : W1.cell? ⟨w.heap.size, 4, none⟩ = some (.slice none 0 0) := blk_cell HZ1.out 4
       have kf0 := blk_frozen HZ1.out 0
       have kf1 := blk_frozen HZ1.out 1
       have kf2 := blk_frozen HZ1.out 2
       have kf3 := blk_frozen HZ1.out 3
       have kf4 := blk_frozen HZ1.out 4
       clear l3 h3 l4 h4 hB1 HO))
  try simp only [Exit.inBlock, Exit.then]
  obtain ⟨h5, hend⟩ := req_end HB1.out (Nat.le_refl _) HB0.out.size (fun k hk => by have := HS0.out; omega) HZ1.out HF.out.1 HF.out.2.1 HF.out.2.2.1 HF.out.2.2.2 rfl
  exact bodyPost_ret (results_ct (p := 4) (u := 5) rfl _ _ _ _ _ _ _ rfl h5 Tryd.underlying27 rfl size_ip) rfl hend

set_option maxHeartbeats 3200000 in
set_option maxRecDepth 100000 in
theorem sBind_nw (nm pw : ByteArray) (w : World) (hnm : nm.size ≤ 140737488355328) (hpw : pw.size ≤ 140737488355328) :
    Calls Tryd.prog 19 #[.int .i64 3, .string nm, .string pw] w (Nw w.heap.size w (tOp 0 [⟨0, 2, false, whole 3, []⟩, tO nm, ⟨2, 0, false, bytesOf pw, []⟩])) := by
  have HCn1 : Hid (∀ W, Calls Tryd.prog 54 #[.int .i64 3] W (Nw W.heap.size W (⟨0, 2, false, whole 3, []⟩ : S33))) := Lib.hid (fun W => number_nw 3 (by omega) W)
  obtain ⟨n1, hxn1⟩ : ∃ y_, y_ = (⟨0, 2, false, whole 3, []⟩ : S33) := ⟨_, rfl⟩
  rw [← hxn1] at HCn1
  have HCo1 : Hid (∀ W, Calls Tryd.prog 47 #[.string nm] W (Nw W.heap.size W (tO nm))) := Lib.hid (fun W => octets_nw nm W (by omega))
  obtain ⟨o1, hxo1⟩ : ∃ y_, y_ = (tO nm) := ⟨_, rfl⟩
  rw [← hxo1] at HCo1
  have HCo2 : Hid (∀ W, Calls Tryd.prog 47 #[.string pw] W (Nw W.heap.size W (tO pw))) := Lib.hid (fun W => octets_nw pw W (by omega))
  obtain ⟨o2, hxo2⟩ : ∃ y_, y_ = (tO pw) := ⟨_, rfl⟩
  rw [← hxo2] at HCo2
  have HCt1 : Hid (∀ (A3 : Option Addr) (c3 : Nat) (A4 : Option Addr) (c4 : Nat) (W : World), Lies (w.heap.size + 1) W o2 A3 c3 A4 c4 → w.heap.size + 1 ≤ W.heap.size → Calls Tryd.prog 51 #[.int .i64 2, .int .i64 0, .agg #[.int .i64 (o2).f0, .int .i64 (o2).f1, .bool (o2).f2, .slice A3 (o2).f3.length c3, .slice A4 (o2).f4.length c4]] W (Nw (w.heap.size + 1) W (⟨2, 0, (o2).f2, (o2).f3, (o2).f4⟩ : S33))) := Lib.hid (fun A3 c3 A4 c4 W h hb => tagged_nw 2 0 o2 A3 c3 A4 c4 W h.1 h.2.1 h.2.2.1 h.2.2.2 hb)
  obtain ⟨t1, hxt1⟩ : ∃ y_, y_ = (⟨2, 0, (o2).f2, (o2).f3, (o2).f4⟩ : S33) := ⟨_, rfl⟩
  rw [← hxt1] at HCt1
  have HCr1 : Hid (∀ (A : Option Addr) (cc : Nat) (W : World), Kd.F k33 W (fun k => w.heap.size + 1 ≤ k) A [n1, o1, t1].length [n1, o1, t1] → 3 ≤ cc → w.heap.size + 1 ≤ W.heap.size → Calls Tryd.prog 46 #[.int .i64 0, .slice A 3 cc] W (Nw (w.heap.size + 1) W (tOp 0 [n1, o1, t1]))) := Lib.hid (fun A cc W h1 h2 h3 => operation_nw 0 [n1, o1, t1] A cc W h1 h2 h3)
  obtain ⟨r1, hxr1⟩ : ∃ y_, y_ = (tOp 0 [n1, o1, t1]) := ⟨_, rfl⟩
  rw [← hxr1] at HCr1
  have hfin : (tOp 0 [⟨0, 2, false, whole 3, []⟩, tO nm, ⟨2, 0, false, bytesOf pw, []⟩]) = r1 := by
    first | (rw [hxr1, hxt1, hxo2, hxo1, hxn1]; done) | (rw [hxr1, hxt1, hxo2, hxo1, hxn1]; rfl)
  rw [hfin]
  clear hfin hxn1 hxo1 hxo2 hxt1 hxr1
  go_enter Tryd.func19, Tryd.ntmps19
  go_wp2_with (first
    | (go_at_call 54
       first
       | (obtain ⟨W0, hW0⟩ : ∃ W0, W0 = w.alloc (.cells #[.int .i64 0, .int .i64 0, .bool false, .slice none 0 0, .slice none 0 0] 33) := ⟨_, rfl⟩
          rw [← hW0]
          have hb0 : Below w.heap.size w W0 := by rw [hW0]; exact below_alloc (Below.refl _ _) _
          have HZ0 : Hid (W0.heap[w.heap.size]? = some (.cells #[.int .i64 0, .int .i64 0, .bool false, .slice none 0 0, .slice none 0 0] 33 (0, 0))) := Lib.hid (by rw [hW0]; exact blk_new _ _)
          have HS0 : Hid (w.heap.size + 1 ≤ W0.heap.size) := Lib.hid (by rw [hW0]; simp)
          have HB0 := Lib.hid hb0
          clear hW0 hb0
          with_reducible refine (HCn1.out W0).mono ?_
          rintro e W1 h_
          obtain ⟨An1_3, cn1_3, An1_4, cn1_4, rfl, hl, hB⟩ := h_.open
          have HLn1_1 := Lib.hid (hl.low HS0.out)
          have HZ1 := Lib.hid (blk_below HZ0.out hB)
          have HB1 := Lib.hid (HB0.out.trans (hB.mono HB0.out.size))
          have HS1 : Hid (w.heap.size + 1 ≤ W1.heap.size) := Lib.hid (by have := hB.size; have := HS0.out; omega)
          clear h_ hl hB))
    | (go_at_call 47
       first
       | (with_reducible refine (HCo1.out W1).mono ?_
          rintro e W2 h_
          obtain ⟨Ao1_3, co1_3, Ao1_4, co1_4, rfl, hl, hB⟩ := h_.open
          have HLo1_2 := Lib.hid (hl.low HS1.out)
          have HLn1_2 := Lib.hid (HLn1_1.out.below hB)
          have HZ2 := Lib.hid (blk_below HZ1.out hB)
          have HB2 := Lib.hid (HB1.out.trans (hB.mono HB1.out.size))
          have HS2 : Hid (w.heap.size + 1 ≤ W2.heap.size) := Lib.hid (by have := hB.size; have := HS1.out; omega)
          clear h_ hl hB)
       | (with_reducible refine (HCo2.out W2).mono ?_
          rintro e W3 h_
          obtain ⟨Ao2_3, co2_3, Ao2_4, co2_4, rfl, hl, hB⟩ := h_.open
          have HLo2_3 := Lib.hid (hl.low HS2.out)
          have HLn1_3 := Lib.hid (HLn1_2.out.below hB)
          have HLo1_3 := Lib.hid (HLo1_2.out.below hB)
          have HZ3 := Lib.hid (blk_below HZ2.out hB)
          have HB3 := Lib.hid (HB2.out.trans (hB.mono HB2.out.size))
          have HS3 : Hid (w.heap.size + 1 ≤ W3.heap.size) := Lib.hid (by have := hB.size; have := HS2.out; omega)
          clear h_ hl hB))
    | (go_at_call 51
       first
       | (with_reducible refine (HCt1.out _ _ _ _ W3 HLo2_3.out HS3.out).mono ?_
          rintro e W4 h_
          obtain ⟨At1_3, ct1_3, At1_4, ct1_4, rfl, hl, hB⟩ := h_.open
          have HLt1_4 := Lib.hid hl
          have HLn1_4 := Lib.hid (HLn1_3.out.below hB)
          have HLo1_4 := Lib.hid (HLo1_3.out.below hB)
          have HZ4 := Lib.hid (blk_below HZ3.out hB)
          have HB4 := Lib.hid (HB3.out.trans (hB.mono HB3.out.size))
          have HS4 : Hid (w.heap.size + 1 ≤ W4.heap.size) := Lib.hid (by have := hB.size; have := HS3.out; omega)
          clear h_ hl hB))
    | (go_at_call 46
       first
       | (obtain ⟨V4, hV⟩ : ∃ V, V = W4.alloc (.cells #[.int .i64 n1.f0, .int .i64 n1.f1, .bool n1.f2, .slice An1_3 n1.f3.length cn1_3, .slice An1_4 n1.f4.length cn1_4, .int .i64 o1.f0, .int .i64 o1.f1, .bool o1.f2, .slice Ao1_3 o1.f3.length co1_3, .slice Ao1_4 o1.f4.length co1_4, .int .i64 t1.f0, .int .i64 t1.f1, .bool t1.f2, .slice At1_3 t1.f3.length ct1_3, .slice At1_4 t1.f4.length ct1_4] 33) := ⟨_, rfl⟩
          rw [← hV]
          have hbV : Below W4.heap.size W4 V4 := by rw [hV]; exact below_alloc (Below.refl _ _) _
          have hzV : V4.heap[W4.heap.size]? = some (.cells #[.int .i64 n1.f0, .int .i64 n1.f1, .bool n1.f2, .slice An1_3 n1.f3.length cn1_3, .slice An1_4 n1.f4.length cn1_4, .int .i64 o1.f0, .int .i64 o1.f1, .bool o1.f2, .slice Ao1_3 o1.f3.length co1_3, .slice Ao1_4 o1.f4.length co1_4, .int .i64 t1.f0, .int .i64 t1.f1, .bool t1.f2, .slice At1_3 t1.f3.length ct1_3, .slice At1_4 t1.f4.length ct1_4] 33 (0, 0)) := by rw [hV]; exact blk_new _ _
          clear hV
          with_reducible refine (HCr1.out _ _ V4 (F3 hzV HS4.out (HLn1_4.out.below hbV) (HLo1_4.out.below hbV) (HLt1_4.out.below hbV)) (Nat.le_refl _) (Nat.le_trans HS4.out hbV.size)).mono ?_
          rintro e W5 h_
          obtain ⟨Ar1_3, cr1_3, Ar1_4, cr1_4, rfl, hl, hB⟩ := h_.open
          replace hB := hbV.trans (hB.mono hbV.size)
          have HLr1_5 := Lib.hid hl
          have HZ5 := Lib.hid (blk_below HZ4.out hB)
          have HB5 := Lib.hid (HB4.out.trans (hB.mono HB4.out.size))
          have HS5 : Hid (w.heap.size + 1 ≤ W5.heap.size) := Lib.hid (by have := hB.size; have := HS4.out; omega)
          have k0 : W5.cell? ⟨w.heap.size, 0, none⟩ = some (.int .i64 0) := blk_cell HZ5.out 0
          have kf0 := blk_frozen HZ5.out 0
          have k1 : W5.cell? ⟨w.heap.size, 1, none⟩ = some (.int .i64 0) := blk_cell HZ5.out 1
          have kf1 := blk_frozen HZ5.out 1
          have k2 : W5.cell? ⟨w.heap.size, 2, none⟩ = some (.bool false) := blk_cell HZ5.out 2
          have kf2 := blk_frozen HZ5.out 2
          have k3 : W5.cell? ⟨w.heap.size, 3, none⟩ = some (.slice none 0 0) := blk_cell HZ5.out 3
          have kf3 := blk_frozen HZ5.out 3
          have k4 : W5.cell? ⟨w.heap.size, 4, none⟩ = some (.slice none 0 0) := blk_cell HZ5.out 4
          have kf4 := blk_frozen HZ5.out 4
          clear h_ hl hB)))
  obtain ⟨h5, hend⟩ := nw_end (b := w.heap.size) (B := w.heap.size + 1) (n := w.heap.size) (x := r1) HB5.out (Nat.le_refl _) (fun k hk => by omega) (Nat.le_succ _) HZ5.out HLr1_5.out.1 HLr1_5.out.2.1 HLr1_5.out.2.2.1 HLr1_5.out.2.2.2 rfl
  try simp only [Exit.inBlock, Exit.then]
  exact bodyPost_ret (results_c rfl _ _ _ _ _ _ _ rfl h5 Tryd.underlying33 rfl size33) rfl hend

/-- the request to end, as a packet -/
def pUnbind : Pk := (bare 64 0 2 .nilIface ⟨#[]⟩)
theorem pUnbind_fine : Fine pUnbind 0 := (fine_bare _ _ _ _ _ (by decide) (by decide) (by decide) (Or.inl rfl) (by decide) (by decide))
set_option maxHeartbeats 3200000 in
set_option maxRecDepth 100000 in
theorem appendTo_Unbind (r base q n : Nat) (E : Pk) (w : World) (hE : At w w base q E) (tE : Top E n) (hn : n < 100000000000) :
    Calls Tryd.prog 151 #[.agg #[], .pointer (some ⟨q, 0, none⟩)] w fun e w' => e = .returned .nilIface ∧ At w' w' base q (addK E pUnbind) ∧ Below base w w' := by
  obtain ⟨W0, hW0⟩ : ∃ W0, W0 = w.alloc (.cells #[] 162) := ⟨_, rfl⟩
  have hb0 : Below w.heap.size w W0 := by rw [hW0]; exact below_alloc (Below.refl _ _) _
  have HE := Lib.hid (hE.on hb0)
  have TE := Lib.hid tE
  have HB0 := Lib.hid hb0
  have HW0 := Lib.hid hW0
  have HL := Lib.hid hE.le
  have HPU : Hid (Top (bare 64 0 2 .nilIface ⟨#[]⟩) 0) := Lib.hid pUnbind_fine.1
  clear hE tE hb0 hW0
  go_enter Tryd.func151, Tryd.ntmps151
  go_wp2_with (first
    | (go_at_call 87
       rw [← HW0.out]
       with_reducible refine (encode_at 64 0 2 _ W0).mono ?_
       rintro e W1 ⟨q1, rfl, hA, hB⟩
       have HA1 := Lib.hid hA
       have HE1 := Lib.hid (HE.out.on hB)
       have HB1 := Lib.hid (HB0.out.trans (hB.mono HB0.out.size))
       clear hA hB)
    | (go_at_call 93
       with_reducible refine (app_at HE1.out HA1.out HB0.out.size TE.out HPU.out (by omega) (by decide)).mono ?_
       rintro e W2 ⟨⟨u, rfl⟩, hA, hB⟩
       have HAE := Lib.hid hA
       have HBE := Lib.hid ((HB1.out.mono HL.out).trans hB)
       clear hA hB))
  go_ret
  exact ⟨rfl, HAE.out, HBE.out⟩

theorem sUnbind_nw (w : World) : Calls Tryd.prog 20 #[] w (Nw w.heap.size w (⟨1, 2, false, [], []⟩ : S33)) := by
  refine (spec_Unbind.calls _ _ _ _ _ w rfl).mono ?_
  rintro e w' ⟨v3, v4, rfl, h3, h4, hb⟩
  exact nw_of ⟨1, 2, false, [], []⟩ h3 (Kd.R_V (base' := 0) (Kd.R_bound h4)) hb (fun _ _ h => h) (fun _ h => h.2.1)

/-- the request as data -/
def dUnbind  : S27 := ⟨1, 2, false, [], []⟩
theorem tr_Unbind  : trOf (pUnbind) = dUnbind := by
  unfold pUnbind dUnbind bare
  simp [trOf, trL]
theorem Unbind_ta : ∀ w : World, (Instr.typeAssert (.iface 162 (.agg #[])) 20 200 true).run Tryd.prog w = .ok (.tuple #[.iface 162 (.agg #[]), .bool true]) w := fun _ => by kernel_rfl
theorem Unbind_m : ∀ w : World, (method 366 162 (.agg #[]) "goldap/pub/goldap.appendTo").run Tryd.prog w = .ok (151, (.agg #[])) w := fun _ => by kernel_rfl
theorem Unbind_cf : ∀ (args : Array Value) (w : World), (callFunc 151 args).run Tryd.prog w = .ok (.enter 151 args) w := fun _ _ => by kernel_rfl
set_option maxHeartbeats 3200000 in
set_option maxRecDepth 100000 in
theorem iUnbind_any  (w : World)  :
    Calls Tryd.prog 18 #[] w (OpRes w (dUnbind)) := by
  obtain ⟨W0, hW0⟩ : ∃ W0, W0 = w.alloc (.cells #[.int .i64 0, .int .i64 0, .bool false, .slice none 0 0, .slice none 0 0] 27) := ⟨_, rfl⟩
  have hb0 : Below w.heap.size w W0 := by rw [hW0]; exact below_alloc (Below.refl _ _) _
  have hs0 : w.heap.size + 1 ≤ W0.heap.size := by rw [hW0]; simp
  have hz0 : W0.heap[w.heap.size]? = some (.cells #[.int .i64 0, .int .i64 0, .bool false, .slice none 0 0, .slice none 0 0] 27 (0, 0)) := by rw [hW0]; exact blk_new _ _
  have HO := Lib.hid (operation_any 162 151 (.agg #[]) (pUnbind) W0 (Unbind_ta) (Unbind_m) Unbind_cf
    (fun W hW q E n W' hE tE hn hb => appendTo_Unbind 0 W.heap.size q n E W' hE tE hn)
    ((pUnbind_fine).ok (by decide)))
  rw [tr_Unbind] at HO
  obtain ⟨y, hy⟩ : ∃ y, y = dUnbind := ⟨_, rfl⟩
  rw [← hy] at HO ⊢
  have HB0 := Lib.hid hb0
  have HS0 := Lib.hid hs0
  have HZ0 := Lib.hid hz0
  have HW0 := Lib.hid hW0
  clear hy hb0 hs0 hz0 hW0
  go_enter Tryd.func18, Tryd.ntmps18
  go_wp2_with (first
    | (go_at_call 53; go_in)
    | (go_at_call 43
       rw [← HW0.out]
       with_reducible refine HO.out.mono ?_
       rintro e W1 ⟨A3, c3, A4, c4, rfl, l3, h3, l4, h4, hB1⟩
       have HZ1 := Lib.hid (blk_below HZ0.out hB1)
       have HB1 := Lib.hid (HB0.out.trans (hB1.mono HB0.out.size))
       have HF := Lib.hid (And.intro l3 (And.intro h3 (And.intro l4 h4)))
       have k0 : W1.cell? ⟨w.heap.size, 0, none⟩ = some (.int .i64 0) := blk_cell HZ1.out 0
       have k1 : W1.cell? ⟨w.heap.size, 1, none⟩ = some (.int .i64 0) := blk_cell HZ1.out 1
       have k2 : W1.cell? ⟨w.heap.size, 2, none⟩ = some (.bool false) := blk_cell HZ1.out 2
       have k3 : W1.cell? ⟨w.heap.size, 3, none⟩ = some (.slice none 0 0) := blk_cell HZ1.out 3
       have k4 : W1.cell? ⟨w.heap.size, 4, none⟩ = some (.slice none 0 0) := blk_cell HZ1.out 4
       have kf0 := blk_frozen HZ1.out 0
       have kf1 := blk_frozen HZ1.out 1
       have kf2 := blk_frozen HZ1.out 2
       have kf3 := blk_frozen HZ1.out 3
       have kf4 := blk_frozen HZ1.out 4
       clear l3 h3 l4 h4 hB1 HO))
  try simp only [Exit.inBlock, Exit.then]
  obtain ⟨h5, hend⟩ := req_end HB1.out (Nat.le_refl _) HB0.out.size (fun k hk => by have := HS0.out; omega) HZ1.out HF.out.1 HF.out.2.1 HF.out.2.2.1 HF.out.2.2.2 rfl
  exact bodyPost_ret (results_ct (p := 0) (u := 1) rfl _ _ _ _ _ _ _ rfl h5 Tryd.underlying27 rfl size_ip) rfl hend

theorem mir_Bind (nm pw : ByteArray) : mir (dBind nm pw) = (tOp 0 [⟨0, 2, false, whole 3, []⟩, tO nm, ⟨2, 0, false, bytesOf pw, []⟩]) := by
  unfold dBind tOp tO
  simp [mir, mirL]
theorem dp_Bind (nm pw : ByteArray) : tdp (mir (dBind nm pw)) ≤ 60 := by
  rw [mir_Bind]
  unfold tOp tO
  simp [tdp, tdpL]
theorem sz_Bind (nm pw : ByteArray) (hnm : nm.size ≤ 200) (hpw : pw.size ≤ 200) : tsize (mir (dBind nm pw)) ≤ 200000 := by
  rw [mir_Bind]
  unfold tOp tO
  simp only [tsize, tsizeL, bytesOf_length, List.length_nil, List.length_cons, whole3]
  omega
theorem mir_Unbind  : mir (dUnbind) = (⟨1, 2, false, [], []⟩ : S33) := by
  unfold dUnbind
  simp [mir, mirL]
theorem dp_Unbind : tdp (mir dUnbind) ≤ 60 := by
  rw [mir_Unbind]
  simp [tdp, tdpL]
theorem sz_Unbind : tsize (mir dUnbind) ≤ 200000 := by
  rw [mir_Unbind]
  simp [tsize, tsizeL]
set_option maxHeartbeats 3200000 in
set_option maxRecDepth 100000 in
theorem fnBind_any (nm pw : ByteArray) (w : World) :
    Calls Tryd.prog 5 #[.string nm, .string pw] w fun e w' => e = .returned (.bool true) ∧ Below w.heap.size w w' := by
  have HB := Lib.hid (Below.refl w.heap.size w)
  by_cases h0 : 2147483647 < nm.size
  · have e1 : decide (2147483647 < (nm.size : Int)) = true := decide_eq_true (by omega)
    have e2 : decide (2147483647 < nm.size) = true := decide_eq_true h0
    clear h0
    go_enter Tryd.func5, Tryd.ntmps5
    go_wp2
    go_ret
    exact ⟨rfl, HB.out⟩
  have e0_1 : decide (2147483647 < (nm.size : Int)) = false := decide_eq_false (by omega)
  have e0_2 : decide (2147483647 < nm.size) = false := decide_eq_false h0
  by_cases h1 : 2147483647 < pw.size
  · have e1 : decide (2147483647 < (pw.size : Int)) = true := decide_eq_true (by omega)
    have e2 : decide (2147483647 < pw.size) = true := decide_eq_true h1
    clear h0 h1
    go_enter Tryd.func5, Tryd.ntmps5
    go_wp2
    go_ret
    exact ⟨rfl, HB.out⟩
  have e1_1 : decide (2147483647 < (pw.size : Int)) = false := decide_eq_false (by omega)
  have e1_2 : decide (2147483647 < pw.size) = false := decide_eq_false h1
  clear h0 h1
  have HSH : Hid (∀ W, W = w.alloc (.cells #[.string nm, .string pw] 9) → Calls Tryd.prog 10 #[.slice (some ⟨w.heap.size, 0, none⟩) 2 2] W fun e w' => e = .returned (.bool (shortT [nm, pw])) ∧ Below w.heap.size w w') := Lib.hid (fun W hW => by
    have hb : W.heap[w.heap.size]? = some (.cells #[.string nm, .string pw] 9 (0, 0)) := by rw [hW]; exact blk_new _ _
    have hB : Below w.heap.size w W := by rw [hW]; exact below_alloc (Below.refl _ _) _
    refine (short_any [nm, pw] (some ⟨w.heap.size, 0, none⟩) 2 W (strs_block hb rfl (by simp)) (Nat.le_refl _) (by simp)).mono ?_
    rintro e w' ⟨he, hb'⟩
    exact ⟨he, hB.trans (hb'.mono hB.size)⟩)
  cases hsh : shortT [nm, pw] with
  | false =>
    rw [hsh] at HSH
    clear hsh
    go_enter Tryd.func5, Tryd.ntmps5
    go_wp2_with (first
      | (go_at_call 10
         refine (HSH.out _ rfl).mono ?_
         rintro e W1 ⟨rfl, hB1⟩
         have HB1 := Lib.hid hB1
         clear hB1)
      | (go_at_call 11
         refine (works_any _).mono ?_
         rintro e W9 ⟨rfl, hB9⟩))
    go_ret
    exact ⟨rfl, HB1.out.trans (hB9.mono HB1.out.size)⟩
  | true =>
    rw [hsh] at HSH
    have hsz : nm.size ≤ 200 ∧ pw.size ≤ 200 := by
      simp only [shortT, List.all_cons, List.all_nil, Bool.and_true, Bool.and_eq_true, decide_eq_true_eq] at hsh
      exact ⟨hsh.1.1, hsh.1.2⟩
    clear hsh
    have znm := hsz.1
    have zpw := hsz.2
    clear hsz
    have HI0 : Hid (∀ W, Calls Tryd.prog 17 #[.string nm, .string pw] W (OpRes W (dBind nm pw))) := Lib.hid (fun W => iBind_any nm pw W (by omega) (by omega))
    have HSP0 : Hid (∀ W, Calls Tryd.prog 19 #[.int .i64 3, .string nm, .string pw] W (Nw W.heap.size W (tOp 0 [⟨0, 2, false, whole 3, []⟩, tO nm, ⟨2, 0, false, bytesOf pw, []⟩]))) := Lib.hid (fun W => sBind_nw nm pw W (by omega) (by omega))
    have hmir0 := mir_Bind nm pw
    have hdp0 := dp_Bind nm pw
    have hts0 := sz_Bind nm pw znm zpw
    obtain ⟨p0, hp0⟩ : ∃ p, p = dBind nm pw := ⟨_, rfl⟩
    obtain ⟨y0, hy0⟩ : ∃ y, y = (tOp 0 [⟨0, 2, false, whole 3, []⟩, tO nm, ⟨2, 0, false, bytesOf pw, []⟩]) := ⟨_, rfl⟩
    rw [← hp0] at HI0 hmir0 hdp0 hts0
    rw [← hy0] at HSP0 hmir0
    have HSA0 : Hid (∀ (A3 : Option Addr) (c3 : Nat) (A4 : Option Addr) (c4 : Nat) (B3 : Option Addr) (d3 : Nat) (B4 : Option Addr) (d4 : Nat) (W : World), p0.f3.length ≤ c3 → (Kd.int .u8).C W A3 p0.f3.length p0.f3 → p0.f4.length ≤ c4 → k27.C W A4 p0.f4.length p0.f4 → y0.f3.length ≤ d3 → (Kd.int .u8).C W B3 y0.f3.length y0.f3 → y0.f4.length ≤ d4 → k33.C W B4 y0.f4.length y0.f4 →
        Calls Tryd.prog 13 #[.agg #[.int .i64 p0.f0, .int .i64 p0.f1, .bool p0.f2, .slice A3 p0.f3.length c3, .slice A4 p0.f4.length c4], .bool true, .agg #[.int .i64 y0.f0, .int .i64 y0.f1, .bool y0.f2, .slice B3 y0.f3.length d3, .slice B4 y0.f4.length d4]] W fun e w' => e = .returned (.bool true) ∧ Below W.heap.size W w') :=
      Lib.hid (fun A3 c3 A4 c4 B3 d3 B4 d4 W q1 q2 q3 q4 q5 q6 q7 q8 => same_any p0 hdp0 hts0 A3 c3 A4 c4 y0 hmir0.symm B3 d3 B4 d4 W q1 q2 q3 q4 q5 q6 q7 q8)
    clear hp0 hy0 hmir0 hdp0 hts0
    have HI1 : Hid (∀ W, Calls Tryd.prog 18 #[] W (OpRes W (dUnbind))) := Lib.hid (fun W => iUnbind_any W)
    have HSP1 : Hid (∀ W, Calls Tryd.prog 20 #[] W (Nw W.heap.size W (⟨1, 2, false, [], []⟩ : S33))) := Lib.hid (fun W => sUnbind_nw W)
    have hmir1 := mir_Unbind
    have hdp1 := dp_Unbind
    have hts1 := sz_Unbind
    obtain ⟨p1, hp1⟩ : ∃ p, p = dUnbind := ⟨_, rfl⟩
    obtain ⟨y1, hy1⟩ : ∃ y, y = (⟨1, 2, false, [], []⟩ : S33) := ⟨_, rfl⟩
    rw [← hp1] at HI1 hmir1 hdp1 hts1
    rw [← hy1] at HSP1 hmir1
    have HSA1 : Hid (∀ (A3 : Option Addr) (c3 : Nat) (A4 : Option Addr) (c4 : Nat) (B3 : Option Addr) (d3 : Nat) (B4 : Option Addr) (d4 : Nat) (W : World), p1.f3.length ≤ c3 → (Kd.int .u8).C W A3 p1.f3.length p1.f3 → p1.f4.length ≤ c4 → k27.C W A4 p1.f4.length p1.f4 → y1.f3.length ≤ d3 → (Kd.int .u8).C W B3 y1.f3.length y1.f3 → y1.f4.length ≤ d4 → k33.C W B4 y1.f4.length y1.f4 →
        Calls Tryd.prog 13 #[.agg #[.int .i64 p1.f0, .int .i64 p1.f1, .bool p1.f2, .slice A3 p1.f3.length c3, .slice A4 p1.f4.length c4], .bool true, .agg #[.int .i64 y1.f0, .int .i64 y1.f1, .bool y1.f2, .slice B3 y1.f3.length d3, .slice B4 y1.f4.length d4]] W fun e w' => e = .returned (.bool true) ∧ Below W.heap.size W w') :=
      Lib.hid (fun A3 c3 A4 c4 B3 d3 B4 d4 W q1 q2 q3 q4 q5 q6 q7 q8 => same_any p1 hdp1 hts1 A3 c3 A4 c4 y1 hmir1.symm B3 d3 B4 d4 W q1 q2 q3 q4 q5 q6 q7 q8)
    clear hp1 hy1 hmir1 hdp1 hts1
    clear znm zpw
    go_enter Tryd.func5, Tryd.ntmps5
    go_wp2_with (first
      | (go_at_call 10
         refine (HSH.out _ rfl).mono ?_
         rintro e W1 ⟨rfl, hB1⟩
         have HB1 := Lib.hid hB1
         clear hB1)
      | (go_at_call 17
         with_reducible refine (HI0.out W1).mono ?_
         rintro e R0 ⟨A0_3, c0_3, A0_4, c0_4, rfl, l3, h3, l4, h4, hB2⟩
         have HBR0 := Lib.hid (HB1.out.trans (hB2.mono HB1.out.size))
         have HF0 := Lib.hid (And.intro l3 (And.intro (Kd.F_now h3) (And.intro l4 (Kd.F_now h4))))
         clear l3 h3 l4 h4 hB2)
      | (go_at_call 18
         obtain ⟨V0, hV⟩ : ∃ V, V = R0.alloc (.cells #[.int .i64 p0.f0, .int .i64 p0.f1, .bool p0.f2, .slice A0_3 p0.f3.length c0_3, .slice A0_4 p0.f4.length c0_4] 27) := ⟨_, rfl⟩
         rw [← hV]
         have hbV : Below R0.heap.size R0 V0 := by rw [hV]; exact below_alloc (Below.refl _ _) _
         have HX0_0 : Hid (V0.heap[R0.heap.size]? = some (.cells #[.int .i64 p0.f0, .int .i64 p0.f1, .bool p0.f2, .slice A0_3 p0.f3.length c0_3, .slice A0_4 p0.f4.length c0_4] 27 (0, 0))) := Lib.hid (by rw [hV]; exact blk_new _ _)
         clear hV
         have HBV0 := Lib.hid (HBR0.out.trans (hbV.mono HBR0.out.size))
         have HFV0 := Lib.hid (And.intro HF0.out.1 (And.intro (Kd.C_below HF0.out.2.1 hbV) (And.intro HF0.out.2.2.1 (Kd.C_below HF0.out.2.2.2 hbV))))
         clear hbV
         with_reducible refine (HI1.out V0).mono ?_
         rintro e R1 ⟨A1_3, c1_3, A1_4, c1_4, rfl, l3, h3, l4, h4, hB2⟩
         have HBR1 := Lib.hid (HBV0.out.trans (hB2.mono HBV0.out.size))
         have HF1 := Lib.hid (And.intro l3 (And.intro (Kd.F_now h3) (And.intro l4 (Kd.F_now h4))))
         have HX0_1 := Lib.hid (blk_below HX0_0.out hB2)
         have HF0_1 := Lib.hid (And.intro HFV0.out.1 (And.intro (Kd.C_below HFV0.out.2.1 hB2) (And.intro HFV0.out.2.2.1 (Kd.C_below HFV0.out.2.2.2 hB2))))
         clear l3 h3 l4 h4 hB2))
    obtain ⟨V1, hV⟩ : ∃ V, V = R1.alloc (.cells #[.int .i64 p1.f0, .int .i64 p1.f1, .bool p1.f2, .slice A1_3 p1.f3.length c1_3, .slice A1_4 p1.f4.length c1_4] 27) := ⟨_, rfl⟩
    rw [← hV]
    have hbV : Below R1.heap.size R1 V1 := by rw [hV]; exact below_alloc (Below.refl _ _) _
    have hX1 : V1.heap[R1.heap.size]? = some (.cells #[.int .i64 p1.f0, .int .i64 p1.f1, .bool p1.f2, .slice A1_3 p1.f3.length c1_3, .slice A1_4 p1.f4.length c1_4] 27 (0, 0)) := by rw [hV]; exact blk_new _ _
    clear hV
    have hX0 := blk_below HX0_1.out hbV
    have HBD : Hid (Below R1.heap.size R1 V1.drew) := Lib.hid hbV.drew
    have a0_0 : V1.drew.cell? ⟨R0.heap.size, 0, none⟩ = some (.int .i64 p0.f0) := blk_cell hX0 0
    have a0_1 : V1.drew.cell? ⟨R0.heap.size, 1, none⟩ = some (.int .i64 p0.f1) := blk_cell hX0 1
    have a0_2 : V1.drew.cell? ⟨R0.heap.size, 2, none⟩ = some (.bool p0.f2) := blk_cell hX0 2
    have a0_3 : V1.drew.cell? ⟨R0.heap.size, 3, none⟩ = some (.slice A0_3 p0.f3.length c0_3) := blk_cell hX0 3
    have a0_4 : V1.drew.cell? ⟨R0.heap.size, 4, none⟩ = some (.slice A0_4 p0.f4.length c0_4) := blk_cell hX0 4
    have HY0 : Hid (V1.drew.heap[R0.heap.size]? = some (.cells #[.int .i64 p0.f0, .int .i64 p0.f1, .bool p0.f2, .slice A0_3 p0.f3.length c0_3, .slice A0_4 p0.f4.length c0_4] 27 (0, 0))) := Lib.hid hX0
    have a1_0 : V1.drew.cell? ⟨R1.heap.size, 0, none⟩ = some (.int .i64 p1.f0) := blk_cell hX1 0
    have a1_1 : V1.drew.cell? ⟨R1.heap.size, 1, none⟩ = some (.int .i64 p1.f1) := blk_cell hX1 1
    have a1_2 : V1.drew.cell? ⟨R1.heap.size, 2, none⟩ = some (.bool p1.f2) := blk_cell hX1 2
    have a1_3 : V1.drew.cell? ⟨R1.heap.size, 3, none⟩ = some (.slice A1_3 p1.f3.length c1_3) := blk_cell hX1 3
    have a1_4 : V1.drew.cell? ⟨R1.heap.size, 4, none⟩ = some (.slice A1_4 p1.f4.length c1_4) := blk_cell hX1 4
    have HY1 : Hid (V1.drew.heap[R1.heap.size]? = some (.cells #[.int .i64 p1.f0, .int .i64 p1.f1, .bool p1.f2, .slice A1_3 p1.f3.length c1_3, .slice A1_4 p1.f4.length c1_4] 27 (0, 0))) := Lib.hid hX1
    have HBV := Lib.hid (HBR1.out.trans (HBD.out.mono HBR1.out.size))
    have HG0 := Lib.hid (And.intro HF0_1.out.1 (And.intro (Kd.C_below HF0_1.out.2.1 HBD.out) (And.intro HF0_1.out.2.2.1 (Kd.C_below HF0_1.out.2.2.2 HBD.out))))
    have HG1 := Lib.hid (And.intro HF1.out.1 (And.intro (Kd.C_below HF1.out.2.1 HBD.out) (And.intro HF1.out.2.2.1 (Kd.C_below HF1.out.2.2.2 HBD.out))))
    clear hbV hX0 hX1
    go_region_with (first
      | (go_at_call 19
         with_reducible refine (HSP0.out _).mono ?_
         rintro e S0 h5
         obtain ⟨B0_3, d0_3, B0_4, d0_4, rfl, hl5, hB5⟩ := h5.open
         have HBS0 := Lib.hid (HBV.out.trans (hB5.mono HBV.out.size))
         have hx0 := blk_below HY0.out hB5
         have u0_0_0 : S0.cell? ⟨R0.heap.size, 0, none⟩ = some (.int .i64 p0.f0) := blk_cell hx0 0
         have u0_0_1 : S0.cell? ⟨R0.heap.size, 1, none⟩ = some (.int .i64 p0.f1) := blk_cell hx0 1
         have u0_0_2 : S0.cell? ⟨R0.heap.size, 2, none⟩ = some (.bool p0.f2) := blk_cell hx0 2
         have u0_0_3 : S0.cell? ⟨R0.heap.size, 3, none⟩ = some (.slice A0_3 p0.f3.length c0_3) := blk_cell hx0 3
         have u0_0_4 : S0.cell? ⟨R0.heap.size, 4, none⟩ = some (.slice A0_4 p0.f4.length c0_4) := blk_cell hx0 4
         have HGS0_0 := Lib.hid (And.intro HG0.out.1 (And.intro (Kd.C_below HG0.out.2.1 hB5) (And.intro HG0.out.2.2.1 (Kd.C_below HG0.out.2.2.2 hB5))))
         have hx1 := blk_below HY1.out hB5
         have u0_1_0 : S0.cell? ⟨R1.heap.size, 0, none⟩ = some (.int .i64 p1.f0) := blk_cell hx1 0
         have u0_1_1 : S0.cell? ⟨R1.heap.size, 1, none⟩ = some (.int .i64 p1.f1) := blk_cell hx1 1
         have u0_1_2 : S0.cell? ⟨R1.heap.size, 2, none⟩ = some (.bool p1.f2) := blk_cell hx1 2
         have u0_1_3 : S0.cell? ⟨R1.heap.size, 3, none⟩ = some (.slice A1_3 p1.f3.length c1_3) := blk_cell hx1 3
         have u0_1_4 : S0.cell? ⟨R1.heap.size, 4, none⟩ = some (.slice A1_4 p1.f4.length c1_4) := blk_cell hx1 4
         have HYS1_0 := Lib.hid hx1
         have HGS1_0 := Lib.hid (And.intro HG1.out.1 (And.intro (Kd.C_below HG1.out.2.1 hB5) (And.intro HG1.out.2.2.1 (Kd.C_below HG1.out.2.2.2 hB5))))
         have HQ0 := Lib.hid (HSA0.out A0_3 c0_3 A0_4 c0_4 B0_3 d0_3 B0_4 d0_4 S0 HGS0_0.out.1 HGS0_0.out.2.1 HGS0_0.out.2.2.1 HGS0_0.out.2.2.2 hl5.1 (Kd.F_now hl5.2.1) hl5.2.2.1 (Kd.F_now hl5.2.2.2))
         clear h5 hl5 hB5 hx0 hx1)
      | (go_at_call 20
         with_reducible refine (HSP1.out _).mono ?_
         rintro e S1 h5
         obtain ⟨B1_3, d1_3, B1_4, d1_4, rfl, hl5, hB5⟩ := h5.open
         have HBS1 := Lib.hid (HBQ0.out.trans (hB5.mono HBQ0.out.size))
         have hx1 := blk_below HY1_0.out hB5
         have u1_1_0 : S1.cell? ⟨R1.heap.size, 0, none⟩ = some (.int .i64 p1.f0) := blk_cell hx1 0
         have u1_1_1 : S1.cell? ⟨R1.heap.size, 1, none⟩ = some (.int .i64 p1.f1) := blk_cell hx1 1
         have u1_1_2 : S1.cell? ⟨R1.heap.size, 2, none⟩ = some (.bool p1.f2) := blk_cell hx1 2
         have u1_1_3 : S1.cell? ⟨R1.heap.size, 3, none⟩ = some (.slice A1_3 p1.f3.length c1_3) := blk_cell hx1 3
         have u1_1_4 : S1.cell? ⟨R1.heap.size, 4, none⟩ = some (.slice A1_4 p1.f4.length c1_4) := blk_cell hx1 4
         have HGS1_1 := Lib.hid (And.intro HG1_0.out.1 (And.intro (Kd.C_below HG1_0.out.2.1 hB5) (And.intro HG1_0.out.2.2.1 (Kd.C_below HG1_0.out.2.2.2 hB5))))
         have HQ1 := Lib.hid (HSA1.out A1_3 c1_3 A1_4 c1_4 B1_3 d1_3 B1_4 d1_4 S1 HGS1_1.out.1 HGS1_1.out.2.1 HGS1_1.out.2.2.1 HGS1_1.out.2.2.2 hl5.1 (Kd.F_now hl5.2.1) hl5.2.2.1 (Kd.F_now hl5.2.2.2))
         clear h5 hl5 hB5 hx1)
      | (go_at_call 13
         first
         | (with_reducible refine HQ0.out.mono ?_
            rintro e Q0 ⟨rfl, hB6⟩
            have HBQ0 := Lib.hid (HBS0.out.trans (hB6.mono HBS0.out.size))
            have HY1_0 := Lib.hid (blk_below HYS1_0.out hB6)
            have v0_1_0 : Q0.cell? ⟨R1.heap.size, 0, none⟩ = some (.int .i64 p1.f0) := blk_cell HY1_0.out 0
            have v0_1_1 : Q0.cell? ⟨R1.heap.size, 1, none⟩ = some (.int .i64 p1.f1) := blk_cell HY1_0.out 1
            have v0_1_2 : Q0.cell? ⟨R1.heap.size, 2, none⟩ = some (.bool p1.f2) := blk_cell HY1_0.out 2
            have v0_1_3 : Q0.cell? ⟨R1.heap.size, 3, none⟩ = some (.slice A1_3 p1.f3.length c1_3) := blk_cell HY1_0.out 3
            have v0_1_4 : Q0.cell? ⟨R1.heap.size, 4, none⟩ = some (.slice A1_4 p1.f4.length c1_4) := blk_cell HY1_0.out 4
            have HG1_0 := Lib.hid (And.intro HGS1_0.out.1 (And.intro (Kd.C_below HGS1_0.out.2.1 hB6) (And.intro HGS1_0.out.2.2.1 (Kd.C_below HGS1_0.out.2.2.2 hB6))))
            clear hB6)
         | (with_reducible refine HQ1.out.mono ?_
            rintro e Q1 ⟨rfl, hB6⟩
            have HBQ1 := Lib.hid (HBS1.out.trans (hB6.mono HBS1.out.size))
            clear hB6)))
    all_goals (
      go_wp2
      go_ret
      exact ⟨rfl, HBQ1.out⟩)
end Go.Proofs.YtbmcpjkhnhbjdaaDoor.Ber
