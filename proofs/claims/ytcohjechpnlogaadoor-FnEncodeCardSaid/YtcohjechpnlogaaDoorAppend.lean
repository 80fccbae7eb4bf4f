/- (*ber.Packet).AppendChild: the child's bytes behind the data, the child behind the children. -/
import Derived.Test.YtcohjechpnlogaaDoorPkBytes
import Derived.Deep.RegionWith
namespace Go.Proofs.YtcohjechpnlogaaDoor.Ber
open Go.RowKit Go.Proofs.YtcohjechpnlogaaDoorW.PrintWords Go.Proofs.YtcohjechpnlogaaDoor.Buf Go.Proofs.YtcohjechpnlogaaDoor.Pk Go.Proofs.YtcohjechpnlogaaDoor.Num Go.Proofs.YtcohjechpnlogaaDoor.Ident
set_option linter.unusedVariables false
set_option linter.unusedSimpArgs false

theorem infoP : (Tryd.prog.info? 46).map (fun i => (i.zero, i.size, i.bytes)) = some (some (.pointer none), 1, 8) := by kernel_rfl

/-- The end: the grown row in the struct. -/
theorem app_end {W2 w1 : World} {base : Nat} {ok : Nat → Prop} {b db : Nat} {v bv cv v1 : Value} {x y : Pk} (P : Parts W2 base ok b x db v bv cv)
    (hR : kPk.R TP w1 base (fun k => ok k ∧ k ≠ b ∧ k ≠ db ∧ some k ≠ v.ownBlock) v1 (x.kids ++ [y])) (hg : W2.grownBy w1 cv.ownBlock) :
    Parts (w1.setCell ⟨b, 6, none⟩ v1) base ok b { x with kids := x.kids ++ [y] } db v bv v1 ∧ Only (fun i => i = b ∨ some i = cv.ownBlock) W2 (w1.setCell ⟨b, 6, none⟩ v1) := by
  obtain ⟨h0, inner, ho, hr⟩ := P.rk
  have hne : some b ≠ cv.ownBlock := fun e => (h0 b e.symm).2.1 rfl
  have hned : some db ≠ cv.ownBlock := fun e => (h0 db e.symm).2.2.1 rfl
  have hbw : w1.heap[b]? = some (.cells (cellsOf x bv db cv) T (0, 0)) := blk_grown P.hb hg hne
  obtain ⟨lr, hd⟩ := P.hd
  have hdw : w1.heap[db]? = some (.cells #[v, .int .i64 0, .int .i8 lr] TB (0, 0)) := blk_grown hd hg hned
  have hkeep : ∀ {k : Nat} {cs : Array Value}, W2.heap[k]? = some (.cells cs 5 (0, 0)) → k < W2.heap.size → (w1.setCell ⟨b, 6, none⟩ v1).heap[k]? = W2.heap[k]? := by
    intro k cs hc hk
    have h1 : k ≠ b := blk_ne hc P.hb (by decide)
    have h2 : some k ≠ cv.ownBlock := fun e => by
      obtain ⟨cells, hc'⟩ := own_typed ho k e.symm
      exact blk_ne hc hc' (by decide) rfl
    exact (Below.heap_setCell w1 ⟨b, 6, none⟩ v1 k h1).trans (hg.block k hk h2)
  refine ⟨⟨P.val, P.okb, P.leb, P.okd, P.led, ?_, ⟨lr, blk_far hdw (p := ⟨b, 6, none⟩) (Ne.symm P.dne) v1⟩, ?_, ?_, ?_⟩, ?_⟩
  · exact Lib.heap_setCell_same (i := 6) hbw v1
  · refine Kd.R_mono (Kd.R_move (Kd.R_bound P.rv) ?_) (fun k hk => hk.1)
    rintro k ⟨k1, k2, k3, q, hq, cells, hc⟩
    rcases List.mem_cons.1 hq with rfl | hq
    · exact hkeep hc k3
    · exact absurd hq (by simp [Kd.int, Kd.scalar])
  · refine Kd.R_mono (Kd.R_move (Kd.R_bound P.rb) ?_) (fun k hk => hk.1)
    rintro k ⟨k1, k2, k3, q, hq, cells, hc⟩
    rcases List.mem_cons.1 hq with rfl | hq
    · exact hkeep hc k3
    · exact absurd hq (by simp [Kd.int, Kd.scalar])
  · exact Kd.R_far hR (p := ⟨b, 6, none⟩) (fun k hk => hk.2.1) v1
  · have h1 : Only (fun i => i = b ∨ some i = cv.ownBlock) W2 w1 := ⟨hg.os, hg.tape, hg.output, hg.size, fun i hi hn => hg.block i hi (fun e => hn (Or.inr e))⟩
    exact h1.setCell (a := ⟨b, 6, none⟩) (fun _ => Or.inl rfl) v1

theorem Parts.okmono {w : World} {base : Nat} {ok ok' : Nat → Prop} {b : Nat} {x : Pk} {db : Nat} {v bv cv : Value} (h : Parts w base ok b x db v bv cv) (hok : ∀ k, ok k → ok' k) : Parts w base ok' b x db v bv cv :=
  ⟨h.val, hok _ h.okb, h.leb, hok _ h.okd, h.led, h.hb, h.hd, Kd.R_mono h.rv hok, Kd.R_mono h.rb (fun k hk => ⟨hok k hk.1, hk.2⟩), Kd.R_mono h.rk (fun k hk => ⟨hok k hk.1, hk.2⟩)⟩

set_option maxHeartbeats 800000 in
set_option maxRecDepth 100000 in
theorem append_any {base : Nat} {ok okc : Nat → Prop} {b db q dq : Nat} {v bv cv vq bq cq : Value} (cls tag : Int) (c : Bool) (h0 : 0 ≤ cls) (h1 : cls ≤ 3) (t0 : 0 ≤ tag) (t1 : tag < 268435456) (x y : Pk) (hx0 : y.cls = cls * 64) (hx1 : y.typ = if c then 32 else 0) (hx2 : y.tag = tag)
    (hy : y.data.length < 1099511627776) (hl : x.data.length < 1099511627776) (hk : x.kids.length < 1099511627776) (w : World) (P : Parts w base ok b x db v bv cv) (C : Parts w base okc q y dq vq bq cq) (hd : ∀ k, okc k → ¬ ok k) (hc : ∀ k, okc k → k < w.heap.size) (hbase : base ≤ w.heap.size) (hokb : ∀ k, ok k → base ≤ k) :
    Calls Tryd.prog 43 #[.pointer (some ⟨b, 0, none⟩), .pointer (some ⟨q, 0, none⟩)] w fun e w' => (∃ u, e = .returned u) ∧ Only ok w w' ∧
      ∃ v' cv', Parts w' base (fun k => ok k ∨ okc k ∨ w.heap.size ≤ k) b { x with data := x.data ++ pkBytes cls tag c y.data, kids := x.kids ++ [y] } db v' bv cv' := by
  have hdr : Below w.heap.size w w.drew := (Below.refl _ w).drew
  have HBy := Lib.hid (bytes_any cls tag c h0 h1 t0 t1 y hx0 hx1 hx2 hy w.drew (C.below hdr))
  have HC := Lib.hid (C.below hdr)
  have HP := Lib.hid (P.below hdr)
  have c5 : w.cell? ⟨b, 5, none⟩ = some (.pointer (some ⟨db, 0, none⟩)) := P.cell 5
  have hlen : (pkBytes cls tag c y.data).length ≤ 14 + y.data.length := by
    have hil := identT_le' cls tag c t0 t1
    have hll := lenBytes_le y.data.length (by simp; omega)
    simp only [pkBytes, List.length_append]
    omega
  have HLEN := Lib.hid hlen
  clear hx0 hx1 hx2 P C hlen hdr
  go_enter Tryd.func43, Tryd.ntmps43
  go_wp2_with fail
  go_region_with (first
    | (go_at_call 28
       with_reducible refine HBy.out.mono ?_
       rintro e W1 ⟨r1, rfl, ho1, hB1⟩
       obtain ⟨A1, d1, rfl, hl1, hc1, hne1⟩ := own_row_parts ho1
       have c5' : W1.cell? ⟨b, 5, none⟩ = some (.pointer (some ⟨db, 0, none⟩)) := (HP.out.below hB1).cell 5
       have HW1 := Lib.hid (write_row db _ _ (pkBytes cls tag c y.data) A1 d1 W1 (HP.out.below hB1).buf hc1 (hne1 (HP.out.below hB1).buf.1) (by have := HLEN.out; omega))
       have HP1 := Lib.hid (HP.out.below hB1)
       have HC1 := Lib.hid (HC.out.below hB1)
       have HB1 := Lib.hid hB1
       clear ho1 hB1 hl1 hc1 hne1)
    | (go_at_call 42
       with_reducible refine HW1.out.mono ?_
       rintro e W2 hw
       obtain ⟨rfl, hO2, v2, hP2⟩ := HP1.out.wrote hw (Nat.le_trans hbase HB1.out.size)
       have HO2 := Lib.hid hO2
       have HP2 := Lib.hid hP2
       clear hw hO2 hP2))
  all_goals (
    have hB2 : Below base w W2 := ((Below.refl base w).drew.trans (HB1.out.mono hbase)).trans (HO2.out.below (Nat.le_trans hbase HB1.out.size) hokb)
    have hs2 : w.heap.size ≤ W2.heap.size := hB2.size
    have P2 : Parts W2 base (fun k => ok k ∨ okc k ∨ w.heap.size ≤ k) b _ db v2 bv cv := HP2.out.okmono (fun k hk => hk.elim Or.inl (fun h => Or.inr (Or.inr (Nat.le_trans HB1.out.size h))))
    have hm : kPk.M W2 base okc y [.pointer (some ⟨q, 0, none⟩)] := HC1.out.pk.only HO2.out hd
    have hv2 : ∀ k, v2.ownBlock = some k → ok k ∨ w.heap.size ≤ k := fun k hk => (HP2.out.rv.1 k hk).imp id (fun h => Nat.le_trans HB1.out.size h)
    have hcv : ∀ k, cv.ownBlock = some k → ok k := fun k hk => (HP1.out.rk.1 k hk).1
    have hnew : ∀ k, okc k → ¬ (ok k ∨ w.heap.size ≤ k) := fun k h1 h2 => h2.elim (hd k h1) (fun h => absurd (hc k h1) (by omega))
    have hokp : ∀ k, okc k → ((ok k ∨ okc k ∨ w.heap.size ≤ k) ∧ k ≠ b ∧ k ≠ db ∧ some k ≠ v2.ownBlock) ∧ some k ≠ cv.ownBlock := fun k h1 =>
      ⟨⟨Or.inr (Or.inl h1), fun e => hd k h1 (e ▸ HP1.out.okb), fun e => hd k h1 (e ▸ HP1.out.okd), fun e => hnew k h1 (hv2 k e.symm)⟩, fun e => hd k h1 (hcv k e.symm)⟩
    have hfresh : ∀ k, W2.heap.size ≤ k → (ok k ∨ okc k ∨ w.heap.size ≤ k) ∧ k ≠ b ∧ k ≠ db ∧ some k ≠ v2.ownBlock := fun k h1 => by
      obtain ⟨lr, hd2⟩ := P2.hd
      have e1 := blk_lt P2.hb
      have e2 := blk_lt hd2
      exact ⟨Or.inr (Or.inr (by omega)), by omega, by omega, fun e => by have := own_lt (int_own P2.rv) k e.symm; omega⟩
    have c6 : W2.cell? ⟨b, 6, none⟩ = some cv := P2.cell 6
    have u6 : ∀ o, (W2.alloc o).cell? ⟨b, 6, none⟩ = some cv := fun o => blk_cell (blk_alloc P2.hb o) 6
    have HP3 := Lib.hid P2
    have HM := Lib.hid hm
    have HK := Lib.hid hokp
    have HF := Lib.hid hfresh
    have HB2 := Lib.hid hB2
    have hO : Only ok w W2 := ((Only.of_below ok (Below.refl _ w).drew).trans (Only.of_below ok HB1.out) (fun _ _ h => h)).trans HO2.out (fun _ _ h => h)
    have HO3 := Lib.hid hO
    have HS : Hid (∀ i, i = b ∨ some i = cv.ownBlock → ok i) := Lib.hid (fun i h => h.elim (fun e => e ▸ HP1.out.okb) (fun e => hcv i e.symm))
    clear hO hB2 P2 hm hokp hfresh hnew hcv hv2 HB1 HC1 HP1 HW1 HP2
    go_wp2_with (at_builtin
                 refine Kd.R_append kPk (w0 := w) (W := W2) base rfl (.tmp 15) (.tmp 17) 73 TP (.pointer none) 8 rfl Tryd.underlying73 infoP rfl (by decide) (by decide) cv x.kids y _ _ okc rfl rfl HM.out HK.out HF.out HP3.out.rk HB2.out (Nat.le_trans hbase HB2.out.size) (by omega) ?_
                 intro v1 w1 hR1 hb1 hg1 hat1
                 have hne : some b ≠ cv.ownBlock := fun e => (HP3.out.rk.1 b e.symm).2.1 rfl
                 have x6 : w1.cell? ⟨b, 6, none⟩ = some cv := blk_cell (blk_grown HP3.out.hb hg1 hne) 6
                 have xf : w1.frozen? ⟨b, 6, none⟩ = false := blk_frozen (blk_grown HP3.out.hb hg1 hne) 6
                 have he := app_end HP3.out hR1 hg1
                 obtain ⟨Aq, cq', hvq, _, _⟩ := Kd.R_reads hR1
                 subst hvq
                 have e1 : (x.kids ++ [y]).length = x.kids.length + 1 := by simp
                 simp only [e1] at he
                 have HE := Lib.hid he
                 clear e1 he hR1 hb1 hg1 hat1 hne)
    refine bodyPost_end (results_none rfl _ _ _) rfl ⟨⟨_, rfl⟩, HO3.out.trans HE.out.2 (fun i _ h => HS.out i h), _, _, HE.out.1⟩)
end Go.Proofs.YtcohjechpnlogaaDoor.Ber
