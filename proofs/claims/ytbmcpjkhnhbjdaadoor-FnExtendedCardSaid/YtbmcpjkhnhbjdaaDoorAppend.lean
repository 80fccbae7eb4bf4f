/- (*ber.Packet).Bytes: identifier, length, data; the packet is only read. · (*ber.Packet).AppendChild: the child's bytes behind the data, the child behind the children. -/
import Derived.Test.YtbmcpjkhnhbjdaaDoorNewString
import Derived.Test.YtbmcpjkhnhbjdaaDoorIdent
import Derived.Deep.RegionWith
namespace Go.Proofs.YtbmcpjkhnhbjdaaDoor.Ber
open Go.RowKit Go.Proofs.YtbmcpjkhnhbjdaaDoorW.PrintWords Go.Proofs.YtbmcpjkhnhbjdaaDoor.Buf Go.Proofs.YtbmcpjkhnhbjdaaDoor.Pk Go.Proofs.YtbmcpjkhnhbjdaaDoor.Num Go.Proofs.YtbmcpjkhnhbjdaaDoor.Ident
set_option linter.unusedVariables false
set_option linter.unusedSimpArgs false

theorem own_row_parts {W : World} {base : Nat} {v : Value} {ys : List Int} (h : W.ownsRow base 5 1 v ys.length (nums .u8 ys)) :
    ∃ A c, v = .slice A ys.length c ∧ ys.length ≤ c ∧ B8.C W A ys.length ys ∧ ∀ {b : Nat} {v' : Value}, Hdr W b v' → ∀ a, A = some a → 1 ≤ ys.length → a.block ≠ b := by
  obtain ⟨A, c, rfl, hl, hc⟩ := Kd.R_reads (own_int h (ok := fun _ => True) (fun _ _ => trivial))
  refine ⟨A, c, rfl, hl, hc, ?_⟩
  rintro b v' hb a rfl _ rfl
  exact row_ne hb h rfl

/-- A buffer of the call's own, at the first new block. -/
structure Mine (w W : World) (v : Value) (xs : List Int) : Prop where
  buf : IsBuf W w.heap.size v xs
  own : ∀ k, v.ownBlock = some k → w.heap.size ≤ k
  below : Below w.heap.size w W

theorem mine_first (w : World) : Mine w (w.alloc (.cells #[.slice none 0 0, .int .i64 0, .int .i8 0] 207)) (.slice none 0 0) [] :=
  ⟨⟨⟨0, blk_new _ _⟩, ⟨rfl, .inl ⟨rfl, rfl⟩⟩⟩, fun k hk => by simp [Value.ownBlock] at hk, below_alloc (Below.refl _ _) _⟩

theorem Mine.call {w W W' : World} {v : Value} {xs : List Int} (h : Mine w W v xs) (hb : Below W.heap.size W W') : Mine w W' v xs := by
  obtain ⟨⟨⟨lr, hh⟩, ho⟩, hk, hB⟩ := h
  exact ⟨⟨⟨lr, blk_below hh hb⟩, pw_own_below ho hb⟩, hk, hB.trans (hb.mono hB.size)⟩

theorem Mine.wrote {w W W' : World} {v : Value} {xs ys : List Int} {e0 e : Ending} (h : Mine w W v xs) (hw : Wrote W w.heap.size v ys e0 e W') : e = e0 ∧ ∃ v', Mine w W' v' ys := by
  obtain ⟨he, v', hbuf, hrow, hon⟩ := hw
  refine ⟨he, v', hbuf, ?_, h.below.trans (hon.below h.below.size ?_)⟩
  · intro k hk
    rcases hrow with h1 | ⟨N, h1, h2⟩
    · exact h.own k (h1 ▸ hk)
    · rw [h1] at hk
      injection hk with hk
      have := h.below.size
      omega
  · rintro i (rfl | hi)
    · exact Nat.le_refl _
    · exact h.own i hi.symm

theorem Mine.shelf {w W : World} {v : Value} {xs : List Int} (h : Mine w W v xs) : Lib.IsBuffer 207 5 w.heap.size w.heap.size (nums .u8 xs) W := by
  obtain ⟨⟨⟨lr, hh⟩, ho⟩, hk, hB⟩ := h
  refine ⟨Nat.le_refl _, v, lr, hh, ?_, row_ne ⟨lr, hh⟩ ho⟩
  rw [nums_length]
  exact own_base_at ho hk

/-- the bytes of a packet in memory -/
def pkBytes (cls tag : Int) (c : Bool) (data : List Int) : List Int := identT cls tag c ++ lenBytes data.length ++ data

set_option maxHeartbeats 400000 in
set_option maxRecDepth 100000 in
theorem bytes_any {base : Nat} {ok : Nat → Prop} {b db : Nat} {v bv cv : Value} (cls tag : Int) (c : Bool) (h0 : 0 ≤ cls) (h1 : cls ≤ 3) (t0 : 0 ≤ tag) (t1 : tag < 268435456) (x : Pk) (hx0 : x.cls = cls * 64) (hx1 : x.typ = if c then 32 else 0) (hx2 : x.tag = tag)
    (hl : x.data.length < 1099511627776) (w : World) (P : Parts w base ok b x db v bv cv) :
    Calls Tryd.prog 108 #[.pointer (some ⟨b, 0, none⟩)] w fun e w' => ∃ r, e = .returned r ∧ w'.ownsRow w.heap.size 5 1 r (pkBytes cls tag c x.data).length (nums .u8 (pkBytes cls tag c x.data)) ∧ Below w.heap.size w w' := by
  have hid := fun W => ident_any cls tag c h0 h1 t0 t1 W
  have hle := fun W => encLen_any x.data.length (by simp; omega) W
  have hil := identT_le' cls tag c t0 t1
  have hll := lenBytes_le x.data.length (by simp; omega)
  rw [← hx0, ← hx1] at hid
  have HI := Lib.hid hid
  have HL := Lib.hid hle
  have HX := Lib.hid hx2
  clear hid hle
  have M0 := mine_first w
  have c0 : (w.alloc (.cells #[.slice none 0 0, .int .i64 0, .int .i8 0] 207)).cell? ⟨b, 0, none⟩ = some (.int .u8 x.cls) := (P.below M0.below).cell 0
  have c1 : (w.alloc (.cells #[.slice none 0 0, .int .i64 0, .int .i8 0] 207)).cell? ⟨b, 1, none⟩ = some (.int .u8 x.typ) := (P.below M0.below).cell 1
  have c2 : (w.alloc (.cells #[.slice none 0 0, .int .i64 0, .int .i8 0] 207)).cell? ⟨b, 2, none⟩ = some (.int .u64 tag) := ((P.below M0.below).cell 2).trans (by rw [← hx2]; rfl)
  have HM := Lib.hid M0
  have HP := Lib.hid P
  obtain ⟨W0, hW0⟩ : ∃ W0, W0 = w.alloc (.cells #[.slice none 0 0, .int .i64 0, .int .i8 0] 207) := ⟨_, rfl⟩
  have HW0 := Lib.hid hW0
  clear M0 hW0 P hx2 hx0 hx1
  obtain ⟨fin, hfin⟩ : ∃ fin, fin = pkBytes cls tag c x.data := ⟨_, rfl⟩
  rw [← hfin]
  have HF := Lib.hid hfin
  clear hfin
  go_enter Tryd.func108, Tryd.ntmps108
  go_wp2_with (first
    | (go_at_call 114
       rw [← HW0.out] at HM ⊢
       clear c0 c1 c2
       with_reducible refine (HI.out W0).mono ?_
       rintro e W1 ⟨v1, rfl, ho1, hB1⟩
       obtain ⟨A1, d1, rfl, hl1, hc1, hne1⟩ := own_row_parts ho1
       have HW1 := Lib.hid (write_row w.heap.size _ _ (identT cls tag c) A1 d1 W1 (HM.out.call hB1).buf hc1 (hne1 (HM.out.call hB1).buf.1) (by simp; omega))
       have HM1 := Lib.hid (HM.out.call hB1)
       clear ho1 hB1 hl1 hc1 hne1)
    | (go_at_call 88
       with_reducible refine HW1.out.mono ?_
       rintro e W2 hw
       obtain ⟨rfl, v2, hM2⟩ := HM1.out.wrote hw
       have HM2 := Lib.hid hM2
       have c5 : W2.cell? ⟨b, 5, none⟩ = some (.pointer (some ⟨db, 0, none⟩)) := (HP.out.below hM2.below).cell 5
       have HL1 := Lib.hid (Tryd.Buffer_Len 0 db (nums .u8 x.data) W2 (HP.out.below hM2.below).buf.shelf)
       clear hw hM2 HW1))
  go_wp2_with (first
    | (go_at_call 111
       with_reducible refine HL1.out.mono ?_
       rintro e W3 ⟨rfl, n3, hW3⟩
       have HM3 := Lib.hid (HM2.out.call (hW3 ▸ pw_below_drewN (Below.refl _ W2) n3))
       clear hW3 HM2 HM1 HL1 c5
       rw [nums_length])
    | (go_at_call 105
       with_reducible refine (HL.out W3).mono ?_
       rintro e W4 ⟨v4, rfl, hR4, hB4⟩
       obtain ⟨A4, d4, rfl, hl4, hc4, hne4⟩ := own_row_parts (int_own hR4)
       have HW4 := Lib.hid (write_row w.heap.size _ _ (lenBytes x.data.length) A4 d4 W4 (HM3.out.call hB4).buf hc4 (hne4 (HM3.out.call hB4).buf.1) (by simp; omega))
       have HM4 := Lib.hid (HM3.out.call hB4)
       clear hR4 hB4 hl4 hc4 hne4 HM3)
    | (go_at_call 88
       with_reducible refine HW4.out.mono ?_
       rintro e W5 hw
       obtain ⟨rfl, v5, hM5⟩ := HM4.out.wrote hw
       have HM5 := Lib.hid hM5
       have c5 : W5.cell? ⟨b, 5, none⟩ = some (.pointer (some ⟨db, 0, none⟩)) := (HP.out.below hM5.below).cell 5
       have HB5 := Lib.hid (Tryd.Buffer_Bytes 0 db (nums .u8 x.data) W5 (HP.out.below hM5.below).buf.shelf)
       clear hw hM5 HW4 HM4))
  go_wp2_with (first
    | (go_at_call 104
       with_reducible refine HB5.out.mono ?_
       rintro e W6 ⟨v6, rfl, ho6, n6, hW6⟩
       rw [nums_length] at ho6
       obtain ⟨A6, d6, rfl, hl6, hc6, hne6⟩ := own_row_parts ho6
       have hM6 := HM5.out.call (hW6 ▸ pw_below_drewN (Below.refl _ W5) n6)
       have HW6 := Lib.hid (write_row w.heap.size _ _ x.data A6 d6 W6 hM6.buf hc6 (hne6 hM6.buf.1) (by simp; omega))
       have HM6 := Lib.hid hM6
       clear hW6 HM5 HB5 c5 ho6 hl6 hc6 hne6 hM6)
    | (go_at_call 88
       with_reducible refine HW6.out.mono ?_
       rintro e W7 hw
       obtain ⟨rfl, v7, hM7⟩ := HM6.out.wrote hw
       have HM7 := Lib.hid hM7
       have HB7 := Lib.hid (Tryd.Buffer_Bytes w.heap.size w.heap.size _ W7 hM7.shelf)
       clear hw hM7 HW6 HM6))
  go_wp2_with (go_at_call 104; with_reducible refine HB7.out.mono ?_; rintro e W8 ⟨v8, rfl, ho8, n8, hW8⟩)
  go_ret
  rw [nums_length] at ho8
  subst hW8
  refine ⟨v8, rfl, ?_, pw_below_drewN HM7.out.below n8⟩
  rw [HF.out, pkBytes]
  simpa using ho8
end Go.Proofs.YtbmcpjkhnhbjdaaDoor.Ber

namespace Go.Proofs.YtbmcpjkhnhbjdaaDoor.Ber
open Go.RowKit Go.Proofs.YtbmcpjkhnhbjdaaDoorW.PrintWords Go.Proofs.YtbmcpjkhnhbjdaaDoor.Buf Go.Proofs.YtbmcpjkhnhbjdaaDoor.Pk Go.Proofs.YtbmcpjkhnhbjdaaDoor.Num Go.Proofs.YtbmcpjkhnhbjdaaDoor.Ident
set_option linter.unusedVariables false
set_option linter.unusedSimpArgs false

theorem infoP : (Tryd.prog.info? 118).map (fun i => (i.zero, i.size, i.bytes)) = some (some (.pointer none), 1, 8) := by kernel_rfl

/-- The end: the grown row in the struct. -/
theorem app_end {W2 w1 : World} {base : Nat} {ok : Nat → Prop} {b db : Nat} {v bv cv v1 : Value} {x y : Pk} (P : Parts W2 base ok b x db v bv cv)
    (hR : kPk.R TP w1 base (fun k => ok k ∧ k ≠ b ∧ k ≠ db ∧ some k ≠ v.ownBlock) v1 (x.kids ++ [y])) (hg : W2.grownBy w1 cv.ownBlock) :
    Parts (w1.setCell ⟨b, 6, none⟩ v1) base ok b { x with kids := x.kids ++ [y] } db v bv v1 ∧ Only (fun i => i = b ∨ some i = cv.ownBlock) W2 (w1.setCell ⟨b, 6, none⟩ v1) := by
  obtain ⟨h0, inner, ho, hr⟩ := P.rk
  have hne : some b ≠ cv.ownBlock := fun e => (h0 b e.symm).2.1 rfl
  have hned : some db ≠ cv.ownBlock := fun e => (h0 db e.symm).2.2.1 rfl
  have hbw : w1.heap[b]? = some (.cells (cellsOf x bv db cv) T (0, 0)) := blk_grown P.hb hg hne
  obtain ⟨lr, hd⟩ := P.hd
  have hdw : w1.heap[db]? = some (.cells #[v, .int .i64 0, .int .i8 lr] TB (0, 0)) := blk_grown hd hg hned
  have hkeep : ∀ {k : Nat} {cs : Array Value}, W2.heap[k]? = some (.cells cs 5 (0, 0)) → k < W2.heap.size → (w1.setCell ⟨b, 6, none⟩ v1).heap[k]? = W2.heap[k]? := by
    intro k cs hc hk
    have h1 : k ≠ b := blk_ne hc P.hb (by decide)
    have h2 : some k ≠ cv.ownBlock := fun e => by
      obtain ⟨cells, hc'⟩ := own_typed ho k e.symm
      exact blk_ne hc hc' (by decide) rfl
    exact (Below.heap_setCell w1 ⟨b, 6, none⟩ v1 k h1).trans (hg.block k hk h2)
  refine ⟨⟨P.val, P.okb, P.leb, P.okd, P.led, ?_, ⟨lr, blk_far hdw (p := ⟨b, 6, none⟩) (Ne.symm P.dne) v1⟩, ?_, ?_, ?_⟩, ?_⟩
  · exact Lib.heap_setCell_same (i := 6) hbw v1
  · refine Kd.R_mono (Kd.R_move (Kd.R_bound P.rv) ?_) (fun k hk => hk.1)
    rintro k ⟨k1, k2, k3, q, hq, cells, hc⟩
    rcases List.mem_cons.1 hq with rfl | hq
    · exact hkeep hc k3
    · exact absurd hq (by simp [Kd.int, Kd.scalar])
  · refine Kd.R_mono (Kd.R_move (Kd.R_bound P.rb) ?_) (fun k hk => hk.1)
    rintro k ⟨k1, k2, k3, q, hq, cells, hc⟩
    rcases List.mem_cons.1 hq with rfl | hq
    · exact hkeep hc k3
    · exact absurd hq (by simp [Kd.int, Kd.scalar])
  · exact Kd.R_far hR (p := ⟨b, 6, none⟩) (fun k hk => hk.2.1) v1
  · have h1 : Only (fun i => i = b ∨ some i = cv.ownBlock) W2 w1 := ⟨hg.os, hg.tape, hg.output, hg.size, fun i hi hn => hg.block i hi (fun e => hn (Or.inr e))⟩
    exact h1.setCell (a := ⟨b, 6, none⟩) (fun _ => Or.inl rfl) v1

theorem Parts.okmono {w : World} {base : Nat} {ok ok' : Nat → Prop} {b : Nat} {x : Pk} {db : Nat} {v bv cv : Value} (h : Parts w base ok b x db v bv cv) (hok : ∀ k, ok k → ok' k) : Parts w base ok' b x db v bv cv :=
  ⟨h.val, hok _ h.okb, h.leb, hok _ h.okd, h.led, h.hb, h.hd, Kd.R_mono h.rv hok, Kd.R_mono h.rb (fun k hk => ⟨hok k hk.1, hk.2⟩), Kd.R_mono h.rk (fun k hk => ⟨hok k hk.1, hk.2⟩)⟩

set_option maxHeartbeats 800000 in
set_option maxRecDepth 100000 in
theorem append_any {base : Nat} {ok okc : Nat → Prop} {b db q dq : Nat} {v bv cv vq bq cq : Value} (cls tag : Int) (c : Bool) (h0 : 0 ≤ cls) (h1 : cls ≤ 3) (t0 : 0 ≤ tag) (t1 : tag < 268435456) (x y : Pk) (hx0 : y.cls = cls * 64) (hx1 : y.typ = if c then 32 else 0) (hx2 : y.tag = tag)
    (hy : y.data.length < 1099511627776) (hl : x.data.length < 1099511627776) (hk : x.kids.length < 1099511627776) (w : World) (P : Parts w base ok b x db v bv cv) (C : Parts w base okc q y dq vq bq cq) (hd : ∀ k, okc k → ¬ ok k) (hc : ∀ k, okc k → k < w.heap.size) (hbase : base ≤ w.heap.size) (hokb : ∀ k, ok k → base ≤ k) :
    Calls Tryd.prog 93 #[.pointer (some ⟨b, 0, none⟩), .pointer (some ⟨q, 0, none⟩)] w fun e w' => (∃ u, e = .returned u) ∧ Only ok w w' ∧
      ∃ v' cv', Parts w' base (fun k => ok k ∨ okc k ∨ w.heap.size ≤ k) b { x with data := x.data ++ pkBytes cls tag c y.data, kids := x.kids ++ [y] } db v' bv cv' := by
  have hdr : Below w.heap.size w w.drew := (Below.refl _ w).drew
  have HBy := Lib.hid (bytes_any cls tag c h0 h1 t0 t1 y hx0 hx1 hx2 hy w.drew (C.below hdr))
  have HC := Lib.hid (C.below hdr)
  have HP := Lib.hid (P.below hdr)
  have c5 : w.cell? ⟨b, 5, none⟩ = some (.pointer (some ⟨db, 0, none⟩)) := P.cell 5
  have hlen : (pkBytes cls tag c y.data).length ≤ 14 + y.data.length := by
    have hil := identT_le' cls tag c t0 t1
    have hll := lenBytes_le y.data.length (by simp; omega)
    simp only [pkBytes, List.length_append]
    omega
  have HLEN := Lib.hid hlen
  clear hx0 hx1 hx2 P C hlen hdr
  go_enter Tryd.func93, Tryd.ntmps93
  go_wp2_with fail
  go_region_with (first
    | (go_at_call 108
       with_reducible refine HBy.out.mono ?_
       rintro e W1 ⟨r1, rfl, ho1, hB1⟩
       obtain ⟨A1, d1, rfl, hl1, hc1, hne1⟩ := own_row_parts ho1
       have c5' : W1.cell? ⟨b, 5, none⟩ = some (.pointer (some ⟨db, 0, none⟩)) := (HP.out.below hB1).cell 5
       have HW1 := Lib.hid (write_row db _ _ (pkBytes cls tag c y.data) A1 d1 W1 (HP.out.below hB1).buf hc1 (hne1 (HP.out.below hB1).buf.1) (by have := HLEN.out; omega))
       have HP1 := Lib.hid (HP.out.below hB1)
       have HC1 := Lib.hid (HC.out.below hB1)
       have HB1 := Lib.hid hB1
       clear ho1 hB1 hl1 hc1 hne1)
    | (go_at_call 88
       with_reducible refine HW1.out.mono ?_
       rintro e W2 hw
       obtain ⟨rfl, hO2, v2, hP2⟩ := HP1.out.wrote hw (Nat.le_trans hbase HB1.out.size)
       have HO2 := Lib.hid hO2
       have HP2 := Lib.hid hP2
       clear hw hO2 hP2))
  all_goals (
    have hB2 : Below base w W2 := ((Below.refl base w).drew.trans (HB1.out.mono hbase)).trans (HO2.out.below (Nat.le_trans hbase HB1.out.size) hokb)
    have hs2 : w.heap.size ≤ W2.heap.size := hB2.size
    have P2 : Parts W2 base (fun k => ok k ∨ okc k ∨ w.heap.size ≤ k) b _ db v2 bv cv := HP2.out.okmono (fun k hk => hk.elim Or.inl (fun h => Or.inr (Or.inr (Nat.le_trans HB1.out.size h))))
    have hm : kPk.M W2 base okc y [.pointer (some ⟨q, 0, none⟩)] := HC1.out.pk.only HO2.out hd
    have hv2 : ∀ k, v2.ownBlock = some k → ok k ∨ w.heap.size ≤ k := fun k hk => (HP2.out.rv.1 k hk).imp id (fun h => Nat.le_trans HB1.out.size h)
    have hcv : ∀ k, cv.ownBlock = some k → ok k := fun k hk => (HP1.out.rk.1 k hk).1
    have hnew : ∀ k, okc k → ¬ (ok k ∨ w.heap.size ≤ k) := fun k h1 h2 => h2.elim (hd k h1) (fun h => absurd (hc k h1) (by omega))
    have hokp : ∀ k, okc k → ((ok k ∨ okc k ∨ w.heap.size ≤ k) ∧ k ≠ b ∧ k ≠ db ∧ some k ≠ v2.ownBlock) ∧ some k ≠ cv.ownBlock := fun k h1 =>
      ⟨⟨Or.inr (Or.inl h1), fun e => hd k h1 (e ▸ HP1.out.okb), fun e => hd k h1 (e ▸ HP1.out.okd), fun e => hnew k h1 (hv2 k e.symm)⟩, fun e => hd k h1 (hcv k e.symm)⟩
    have hfresh : ∀ k, W2.heap.size ≤ k → (ok k ∨ okc k ∨ w.heap.size ≤ k) ∧ k ≠ b ∧ k ≠ db ∧ some k ≠ v2.ownBlock := fun k h1 => by
      obtain ⟨lr, hd2⟩ := P2.hd
      have e1 := blk_lt P2.hb
      have e2 := blk_lt hd2
      exact ⟨Or.inr (Or.inr (by omega)), by omega, by omega, fun e => by have := own_lt (int_own P2.rv) k e.symm; omega⟩
    have c6 : W2.cell? ⟨b, 6, none⟩ = some cv := P2.cell 6
    have u6 : ∀ o, (W2.alloc o).cell? ⟨b, 6, none⟩ = some cv := fun o => blk_cell (blk_alloc P2.hb o) 6
    have HP3 := Lib.hid P2
    have HM := Lib.hid hm
    have HK := Lib.hid hokp
    have HF := Lib.hid hfresh
    have HB2 := Lib.hid hB2
    have hO : Only ok w W2 := ((Only.of_below ok (Below.refl _ w).drew).trans (Only.of_below ok HB1.out) (fun _ _ h => h)).trans HO2.out (fun _ _ h => h)
    have HO3 := Lib.hid hO
    have HS : Hid (∀ i, i = b ∨ some i = cv.ownBlock → ok i) := Lib.hid (fun i h => h.elim (fun e => e ▸ HP1.out.okb) (fun e => hcv i e.symm))
    clear hO hB2 P2 hm hokp hfresh hnew hcv hv2 HB1 HC1 HP1 HW1 HP2
    go_wp2_with (at_builtin
                 refine Kd.R_append kPk (w0 := w) (W := W2) base rfl (.tmp 15) (.tmp 17) 154 TP (.pointer none) 8 rfl Tryd.underlying154 infoP rfl (by decide) (by decide) cv x.kids y _ _ okc rfl rfl HM.out HK.out HF.out HP3.out.rk HB2.out (Nat.le_trans hbase HB2.out.size) (by omega) ?_
                 intro v1 w1 hR1 hb1 hg1 hat1
                 have hne : some b ≠ cv.ownBlock := fun e => (HP3.out.rk.1 b e.symm).2.1 rfl
                 have x6 : w1.cell? ⟨b, 6, none⟩ = some cv := blk_cell (blk_grown HP3.out.hb hg1 hne) 6
                 have xf : w1.frozen? ⟨b, 6, none⟩ = false := blk_frozen (blk_grown HP3.out.hb hg1 hne) 6
                 have he := app_end HP3.out hR1 hg1
                 obtain ⟨Aq, cq', hvq, _, _⟩ := Kd.R_reads hR1
                 subst hvq
                 have e1 : (x.kids ++ [y]).length = x.kids.length + 1 := by simp
                 simp only [e1] at he
                 have HE := Lib.hid he
                 clear e1 he hR1 hb1 hg1 hat1 hne)
    refine bodyPost_end (results_none rfl _ _ _) rfl ⟨⟨_, rfl⟩, HO3.out.trans HE.out.2 (fun i _ h => HS.out i h), _, _, HE.out.1⟩)
end Go.Proofs.YtbmcpjkhnhbjdaaDoor.Ber
