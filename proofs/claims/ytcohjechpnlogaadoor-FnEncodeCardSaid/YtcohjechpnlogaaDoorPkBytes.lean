/- (*ber.Packet).Bytes: identifier, length, data; the packet is only read. -/
import Derived.Test.YtcohjechpnlogaaDoorMake
import Derived.Test.YtcohjechpnlogaaDoorIdent
namespace Go.Proofs.YtcohjechpnlogaaDoor.Ber
open Go.RowKit Go.Proofs.YtcohjechpnlogaaDoorW.PrintWords Go.Proofs.YtcohjechpnlogaaDoor.Buf Go.Proofs.YtcohjechpnlogaaDoor.Pk Go.Proofs.YtcohjechpnlogaaDoor.Num Go.Proofs.YtcohjechpnlogaaDoor.Ident
set_option linter.unusedVariables false
set_option linter.unusedSimpArgs false

theorem own_row_parts {W : World} {base : Nat} {v : Value} {ys : List Int} (h : W.ownsRow base 5 1 v ys.length (nums .u8 ys)) :
    ∃ A c, v = .slice A ys.length c ∧ ys.length ≤ c ∧ B8.C W A ys.length ys ∧ ∀ {b : Nat} {v' : Value}, Hdr W b v' → ∀ a, A = some a → 1 ≤ ys.length → a.block ≠ b := by
  obtain ⟨A, c, rfl, hl, hc⟩ := Kd.R_reads (own_int h (ok := fun _ => True) (fun _ _ => trivial))
  refine ⟨A, c, rfl, hl, hc, ?_⟩
  rintro b v' hb a rfl _ rfl
  exact row_ne hb h rfl

/-- A buffer of the call's own, at the first new block. -/
structure Mine (w W : World) (v : Value) (xs : List Int) : Prop where
  buf : IsBuf W w.heap.size v xs
  own : ∀ k, v.ownBlock = some k → w.heap.size ≤ k
  below : Below w.heap.size w W

theorem mine_first (w : World) : Mine w (w.alloc (.cells #[.slice none 0 0, .int .i64 0, .int .i8 0] 81)) (.slice none 0 0) [] :=
  ⟨⟨⟨0, blk_new _ _⟩, ⟨rfl, .inl ⟨rfl, rfl⟩⟩⟩, fun k hk => by simp [Value.ownBlock] at hk, below_alloc (Below.refl _ _) _⟩

theorem Mine.call {w W W' : World} {v : Value} {xs : List Int} (h : Mine w W v xs) (hb : Below W.heap.size W W') : Mine w W' v xs := by
  obtain ⟨⟨⟨lr, hh⟩, ho⟩, hk, hB⟩ := h
  exact ⟨⟨⟨lr, blk_below hh hb⟩, pw_own_below ho hb⟩, hk, hB.trans (hb.mono hB.size)⟩

theorem Mine.wrote {w W W' : World} {v : Value} {xs ys : List Int} {e0 e : Ending} (h : Mine w W v xs) (hw : Wrote W w.heap.size v ys e0 e W') : e = e0 ∧ ∃ v', Mine w W' v' ys := by
  obtain ⟨he, v', hbuf, hrow, hon⟩ := hw
  refine ⟨he, v', hbuf, ?_, h.below.trans (hon.below h.below.size ?_)⟩
  · intro k hk
    rcases hrow with h1 | ⟨N, h1, h2⟩
    · exact h.own k (h1 ▸ hk)
    · rw [h1] at hk
      injection hk with hk
      have := h.below.size
      omega
  · rintro i (rfl | hi)
    · exact Nat.le_refl _
    · exact h.own i hi.symm

theorem Mine.shelf {w W : World} {v : Value} {xs : List Int} (h : Mine w W v xs) : Lib.IsBuffer 81 5 w.heap.size w.heap.size (nums .u8 xs) W := by
  obtain ⟨⟨⟨lr, hh⟩, ho⟩, hk, hB⟩ := h
  refine ⟨Nat.le_refl _, v, lr, hh, ?_, row_ne ⟨lr, hh⟩ ho⟩
  rw [nums_length]
  exact own_base_at ho hk

/-- the bytes of a packet in memory -/
def pkBytes (cls tag : Int) (c : Bool) (data : List Int) : List Int := identT cls tag c ++ lenBytes data.length ++ data

set_option maxHeartbeats 400000 in
set_option maxRecDepth 100000 in
theorem bytes_any {base : Nat} {ok : Nat → Prop} {b db : Nat} {v bv cv : Value} (cls tag : Int) (c : Bool) (h0 : 0 ≤ cls) (h1 : cls ≤ 3) (t0 : 0 ≤ tag) (t1 : tag < 268435456) (x : Pk) (hx0 : x.cls = cls * 64) (hx1 : x.typ = if c then 32 else 0) (hx2 : x.tag = tag)
    (hl : x.data.length < 1099511627776) (w : World) (P : Parts w base ok b x db v bv cv) :
    Calls Tryd.prog 28 #[.pointer (some ⟨b, 0, none⟩)] w fun e w' => ∃ r, e = .returned r ∧ w'.ownsRow w.heap.size 5 1 r (pkBytes cls tag c x.data).length (nums .u8 (pkBytes cls tag c x.data)) ∧ Below w.heap.size w w' := by
  have hid := fun W => ident_any cls tag c h0 h1 t0 t1 W
  have hle := fun W => encLen_any x.data.length (by simp; omega) W
  have hil := identT_le' cls tag c t0 t1
  have hll := lenBytes_le x.data.length (by simp; omega)
  rw [← hx0, ← hx1] at hid
  have HI := Lib.hid hid
  have HL := Lib.hid hle
  have HX := Lib.hid hx2
  clear hid hle
  have M0 := mine_first w
  have c0 : (w.alloc (.cells #[.slice none 0 0, .int .i64 0, .int .i8 0] 81)).cell? ⟨b, 0, none⟩ = some (.int .u8 x.cls) := (P.below M0.below).cell 0
  have c1 : (w.alloc (.cells #[.slice none 0 0, .int .i64 0, .int .i8 0] 81)).cell? ⟨b, 1, none⟩ = some (.int .u8 x.typ) := (P.below M0.below).cell 1
  have c2 : (w.alloc (.cells #[.slice none 0 0, .int .i64 0, .int .i8 0] 81)).cell? ⟨b, 2, none⟩ = some (.int .u64 tag) := ((P.below M0.below).cell 2).trans (by rw [← hx2]; rfl)
  have HM := Lib.hid M0
  have HP := Lib.hid P
  obtain ⟨W0, hW0⟩ : ∃ W0, W0 = w.alloc (.cells #[.slice none 0 0, .int .i64 0, .int .i8 0] 81) := ⟨_, rfl⟩
  have HW0 := Lib.hid hW0
  clear M0 hW0 P hx2 hx0 hx1
  obtain ⟨fin, hfin⟩ : ∃ fin, fin = pkBytes cls tag c x.data := ⟨_, rfl⟩
  rw [← hfin]
  have HF := Lib.hid hfin
  clear hfin
  go_enter Tryd.func28, Tryd.ntmps28
  go_wp2_with (first
    | (go_at_call 44
       rw [← HW0.out] at HM ⊢
       clear c0 c1 c2
       with_reducible refine (HI.out W0).mono ?_
       rintro e W1 ⟨v1, rfl, ho1, hB1⟩
       obtain ⟨A1, d1, rfl, hl1, hc1, hne1⟩ := own_row_parts ho1
       have HW1 := Lib.hid (write_row w.heap.size _ _ (identT cls tag c) A1 d1 W1 (HM.out.call hB1).buf hc1 (hne1 (HM.out.call hB1).buf.1) (by simp; omega))
       have HM1 := Lib.hid (HM.out.call hB1)
       clear ho1 hB1 hl1 hc1 hne1)
    | (go_at_call 42
       with_reducible refine HW1.out.mono ?_
       rintro e W2 hw
       obtain ⟨rfl, v2, hM2⟩ := HM1.out.wrote hw
       have HM2 := Lib.hid hM2
       have c5 : W2.cell? ⟨b, 5, none⟩ = some (.pointer (some ⟨db, 0, none⟩)) := (HP.out.below hM2.below).cell 5
       have HL1 := Lib.hid (Tryd.Buffer_Len 0 db (nums .u8 x.data) W2 (HP.out.below hM2.below).buf.shelf)
       clear hw hM2 HW1))
  go_wp2_with (first
    | (go_at_call 46
       with_reducible refine HL1.out.mono ?_
       rintro e W3 ⟨rfl, n3, hW3⟩
       have HM3 := Lib.hid (HM2.out.call (hW3 ▸ pw_below_drewN (Below.refl _ W2) n3))
       clear hW3 HM2 HM1 HL1 c5
       rw [nums_length])
    | (go_at_call 45
       with_reducible refine (HL.out W3).mono ?_
       rintro e W4 ⟨v4, rfl, hR4, hB4⟩
       obtain ⟨A4, d4, rfl, hl4, hc4, hne4⟩ := own_row_parts (int_own hR4)
       have HW4 := Lib.hid (write_row w.heap.size _ _ (lenBytes x.data.length) A4 d4 W4 (HM3.out.call hB4).buf hc4 (hne4 (HM3.out.call hB4).buf.1) (by simp; omega))
       have HM4 := Lib.hid (HM3.out.call hB4)
       clear hR4 hB4 hl4 hc4 hne4 HM3)
    | (go_at_call 42
       with_reducible refine HW4.out.mono ?_
       rintro e W5 hw
       obtain ⟨rfl, v5, hM5⟩ := HM4.out.wrote hw
       have HM5 := Lib.hid hM5
       have c5 : W5.cell? ⟨b, 5, none⟩ = some (.pointer (some ⟨db, 0, none⟩)) := (HP.out.below hM5.below).cell 5
       have HB5 := Lib.hid (Tryd.Buffer_Bytes 0 db (nums .u8 x.data) W5 (HP.out.below hM5.below).buf.shelf)
       clear hw hM5 HW4 HM4))
  go_wp2_with (first
    | (go_at_call 47
       with_reducible refine HB5.out.mono ?_
       rintro e W6 ⟨v6, rfl, ho6, n6, hW6⟩
       rw [nums_length] at ho6
       obtain ⟨A6, d6, rfl, hl6, hc6, hne6⟩ := own_row_parts ho6
       have hM6 := HM5.out.call (hW6 ▸ pw_below_drewN (Below.refl _ W5) n6)
       have HW6 := Lib.hid (write_row w.heap.size _ _ x.data A6 d6 W6 hM6.buf hc6 (hne6 hM6.buf.1) (by simp; omega))
       have HM6 := Lib.hid hM6
       clear hW6 HM5 HB5 c5 ho6 hl6 hc6 hne6 hM6)
    | (go_at_call 42
       with_reducible refine HW6.out.mono ?_
       rintro e W7 hw
       obtain ⟨rfl, v7, hM7⟩ := HM6.out.wrote hw
       have HM7 := Lib.hid hM7
       have HB7 := Lib.hid (Tryd.Buffer_Bytes w.heap.size w.heap.size _ W7 hM7.shelf)
       clear hw hM7 HW6 HM6))
  go_wp2_with (go_at_call 47; with_reducible refine HB7.out.mono ?_; rintro e W8 ⟨v8, rfl, ho8, n8, hW8⟩)
  go_ret
  rw [nums_length] at ho8
  subst hW8
  refine ⟨v8, rfl, ?_, pw_below_drewN HM7.out.below n8⟩
  rw [HF.out, pkBytes]
  simpa using ho8
end Go.Proofs.YtcohjechpnlogaaDoor.Ber
