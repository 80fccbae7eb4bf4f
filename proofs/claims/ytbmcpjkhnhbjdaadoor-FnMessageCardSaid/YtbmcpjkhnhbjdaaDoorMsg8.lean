/- Parts of the proof of one law, in the order in which they build. spec.Paging: the value of a control of paged results. · (*ber.Packet).Bytes: identifier, length, data; the packet is only read. · (*ber.Packet).AppendChild: the child's bytes behind the data, the child behind the children. · Packets of the package as data: what impl.packet gives, in plain Lean; and the kids of a packet that is the call's own. · Packets that are put together step by step: where each stands in memory (At), a child more (app_at), a new one (encode_at, string_at). · ber.Encode of a string of bytes: its data are the string. · ber.NewInteger at an int64, an int, a uint64: a packet whose data are the number's bytes. No condition but the kind's own range. · impl.packet: a packet of the call's own is read as data, in new memory. · impl.packet at packets with packets in them. · impl.safely: a closure that returns a truth value is run; recover finds nothing. · ldap.Envelope at the number 0: the message's number and the request are its children. The request's own method appends one child. · impl.operation: the request's packet as data. · impl.operation: the request's packet as data, and true. · spec.Alike at packets that are equal: true. · laws.same at an answer that is what is wanted: true. The plain law: the answer's reading is the packet's own tree, where it is neither deep nor great. · laws.short at a list of texts; a row of texts in a block. · Small packets: whole numbers and truth values of the package; what may stand in an operation. · Changes as packets of the package; rows of packets in one. -/
import Derived.Deep.RegionWith
import Derived.BigRegion
import Derived.Deep.RegionLaw
import Derived.Deep.DrawnRows
import Derived.Recover
import Derived.Defers
import Derived.BigQuiet
import Derived.Deep.QuietTactic
import Derived.StillTailTactics
import Derived.Deep.DeepCutAuto
import Derived.Deep.CutBlock
import Derived.Test.YtbmcpjkhnhbjdaaDoorMsg1
import Derived.Test.YtbmcpjkhnhbjdaaDoorMsg2
import Derived.Test.YtbmcpjkhnhbjdaaDoorMsg3
import Derived.Test.YtbmcpjkhnhbjdaaDoorMsg4
import Derived.Test.YtbmcpjkhnhbjdaaDoorMsg5
import Derived.Test.YtbmcpjkhnhbjdaaDoorMsg6
import Derived.Test.YtbmcpjkhnhbjdaaDoorMsg7
namespace Go.Proofs.YtbmcpjkhnhbjdaaDoor.Ber
open Go.RowKit Go.Proofs.YtbmcpjkhnhbjdaaDoorW.PrintWords Go.Proofs.YtbmcpjkhnhbjdaaDoor.PFnEncode Go.Proofs.YtbmcpjkhnhbjdaaDoor.Tree Go.Proofs.YtbmcpjkhnhbjdaaDoor.Buf Go.Proofs.YtbmcpjkhnhbjdaaDoor.Pk Go.Proofs.YtbmcpjkhnhbjdaaDoor.Within Go.Proofs.YtbmcpjkhnhbjdaaDoor.Num
set_option linter.unusedVariables false
set_option linter.unusedSimpArgs false

def pagT (n : Int) (ck : ByteArray) : S33 := tL [⟨0, 2, false, whole n, []⟩, tO ck]
/-- the value's text -/
def pagV (n : Int) (ck : ByteArray) : ByteArray := strOfNums (bytesT (pagT n ck))
theorem pagT_good (n : Int) (ck : ByteArray) : good (pagT n ck) = true := by
  simp [pagT, tL, tO, good, goodL]
theorem pagT_big (n : Int) (hn : -9223372036854775808 ≤ n ∧ n ≤ 9223372036854775807) (ck : ByteArray) : tsize (pagT n ck) ≤ ck.size + 100 := by
  have h1 : (whole n).length ≤ 8 := by have := wl_le8 n hn; rw [whole, be_length]; exact this
  have h2 := bytesOf_length ck
  simp only [pagT, tL, tO, tsize, tsizeL, List.length_nil]
  omega
theorem pagV_big (n : Int) (hn : -9223372036854775808 ≤ n ∧ n ≤ 9223372036854775807) (ck : ByteArray) (hck : ck.size ≤ 2147483647) : (pagV n ck).size ≤ 14 * (ck.size + 100) := by
  have h1 := pagT_big n hn ck
  have h := bytesT_le (pagT n ck) (pagT_good n ck) (by omega)
  have h2 : (pagV n ck).size = (bytesT (pagT n ck)).length := by simp [pagV, strOfNums, ByteArray.size]
  omega
set_option maxHeartbeats 3200000 in
set_option maxRecDepth 100000 in
theorem sPag_any (n : Int) (hn : -9223372036854775808 ≤ n ∧ n ≤ 9223372036854775807) (ck : ByteArray) (hck : ck.size ≤ 2147483647) (w : World) :
    Calls Tryd.prog 76 #[.int .i64 n, .string ck] w fun e w' => e = .returned (.string (pagV n ck)) ∧ Below w.heap.size w w' := by
  have HNU : Hid (Calls Tryd.prog 54 #[.int .i64 n] w (Nw w.heap.size w ⟨0, 2, false, whole n, []⟩)) := Lib.hid (number_nw n hn w)
  have HOC : Hid (∀ W, Calls Tryd.prog 47 #[.string ck] W (Nw W.heap.size W (tO ck))) := Lib.hid (fun W => octets_nw ck W (by omega))
  obtain ⟨k, hk⟩ := bytes_ex (pagT n ck) (pagT_good n ck) (by have := pagT_big n hn ck; omega)
  obtain ⟨x, hx⟩ : ∃ x : S33, x = ⟨0, 2, false, whole n, []⟩ := ⟨_, rfl⟩
  obtain ⟨y, hy⟩ : ∃ y, y = tO ck := ⟨_, rfl⟩
  have HBY : Hid (∀ (A3 : Option Addr) (c3 : Nat) (A : Option Addr) (c : Nat) (W : World) (b : Nat), Lies b W (tL [x, y]) A3 c3 A c → Calls Tryd.prog 64 #[.agg #[.int .i64 (tL [x, y]).f0, .int .i64 (tL [x, y]).f1, .bool (tL [x, y]).f2, .slice A3 (tL [x, y]).f3.length c3, .slice A (tL [x, y]).f4.length c]] W fun e w' => ∃ v, e = .returned v ∧ Kd.R (Kd.int .u8) 5 w' W.heap.size (fun _ => True) v (bytesT (pagT n ck)) ∧ Below W.heap.size W w') :=
    Lib.hid (fun A3 c3 A c W b h => by
      rw [hx, hy] at h ⊢
      exact spec_Bytes.calls k 0 16 true A3 c3 [] A c _ _ W (Kd.F_now h.2.1) h.1 (Kd.F_now h.2.2.2) h.2.2.1 hk)
  obtain ⟨z, hz⟩ : ∃ z, z = tL [x, y] := ⟨_, rfl⟩
  have HLI : Hid (∀ (A : Option Addr) (c b : Nat) (W : World), Kd.F k33 W (fun k => b ≤ k) A [x, y].length [x, y] → 2 ≤ c → b ≤ W.heap.size → Calls Tryd.prog 48 #[.slice A 2 c] W (Nw b W z)) := Lib.hid (fun A c b W h1 h2 h3 => by rw [hz]; exact list_nw [x, y] A c W h1 h2 h3)
  rw [← hz] at HBY
  obtain ⟨bt, hbt⟩ : ∃ bt, bt = bytesT (pagT n ck) := ⟨_, rfl⟩
  rw [← hbt] at HBY
  rw [pagV, ← hbt]
  rw [← hx] at HNU
  rw [← hy] at HOC
  clear hx hy hz hk hbt hn hck
  go_enter Tryd.func76, Tryd.ntmps76
  go_wp2_with (first
    | (go_at_call 54
       with_reducible refine HNU.out.mono ?_
       rintro e W1 h1
       obtain ⟨A3, a3c, A4, a4c, rfl, hl, hB⟩ := h1.open
       have HX1 := Lib.hid hl
       have HB1 := Lib.hid hB
       clear h1 hl hB)
    | (go_at_call 47
       with_reducible refine (HOC.out W1).mono ?_
       rintro e W2 h2
       obtain ⟨B3, b3c, B4, b4c, rfl, hl, hB⟩ := h2.open
       have HY2 := Lib.hid (hl.low HB1.out.size)
       have HX2 := Lib.hid (HX1.out.below hB)
       have HB2 := Lib.hid (HB1.out.trans (hB.mono HB1.out.size))
       clear h2 hl hB)
    | (go_at_call 48
       obtain ⟨V, hV⟩ : ∃ V, V = W2.alloc (.cells #[.int .i64 x.f0, .int .i64 x.f1, .bool x.f2, .slice A3 x.f3.length a3c, .slice A4 x.f4.length a4c, .int .i64 y.f0, .int .i64 y.f1, .bool y.f2, .slice B3 y.f3.length b3c, .slice B4 y.f4.length b4c] 33) := ⟨_, rfl⟩
       rw [← hV]
       have hbV : Below W2.heap.size W2 V := by rw [hV]; exact below_alloc (Below.refl _ _) _
       have hzV : V.heap[W2.heap.size]? = some (.cells #[.int .i64 x.f0, .int .i64 x.f1, .bool x.f2, .slice A3 x.f3.length a3c, .slice A4 x.f4.length a4c, .int .i64 y.f0, .int .i64 y.f1, .bool y.f2, .slice B3 y.f3.length b3c, .slice B4 y.f4.length b4c] 33 (0, 0)) := by rw [hV]; exact blk_new _ _
       clear hV
       with_reducible refine (HLI.out (some ⟨W2.heap.size, 0, none⟩) 2 w.heap.size V (F2 hzV HB2.out.size (HX2.out.below hbV) (HY2.out.below hbV)) (Nat.le_refl _) (Nat.le_trans HB2.out.size hbV.size)).mono ?_
       rintro e W3 h3
       obtain ⟨D3, d3c, D4, d4c, rfl, hl, hB⟩ := h3.open
       have HZ3 := Lib.hid hl
       have HB3 := Lib.hid (HB2.out.trans ((hbV.trans (hB.mono hbV.size)).mono HB2.out.size))
       clear h3 hl hB hbV hzV)
    | (go_at_call 64
       with_reducible refine (HBY.out D3 d3c D4 d4c W3 _ HZ3.out).mono ?_
       rintro e W5 ⟨v5, rfl, hR5, hB5⟩
       obtain ⟨A5, c5, rfl, l5, hC5⟩ := Kd.R_reads hR5
       have hcv : (convert 24 9 (.slice A5 bt.length c5)).run Tryd.prog W5 = .ok (.string (strOfNums bt)) W5 := Kd.C_string Tryd.underlying24 Tryd.underlying5 Tryd.underlying9 hC5
       have HB5 := Lib.hid (HB3.out.trans (hB5.mono HB3.out.size))
       clear hR5 hB5 hC5 l5))
  go_ret
  exact ⟨rfl, HB5.out⟩
end Go.Proofs.YtbmcpjkhnhbjdaaDoor.Ber
namespace Go.Proofs.YtbmcpjkhnhbjdaaDoor.Ber
open Go.RowKit Go.Proofs.YtbmcpjkhnhbjdaaDoorW.PrintWords Go.Proofs.YtbmcpjkhnhbjdaaDoor.Buf Go.Proofs.YtbmcpjkhnhbjdaaDoor.Pk Go.Proofs.YtbmcpjkhnhbjdaaDoor.Num Go.Proofs.YtbmcpjkhnhbjdaaDoor.Ident
set_option linter.unusedVariables false
set_option linter.unusedSimpArgs false

theorem own_row_parts {W : World} {base : Nat} {v : Value} {ys : List Int} (h : W.ownsRow base 5 1 v ys.length (nums .u8 ys)) :
    ∃ A c, v = .slice A ys.length c ∧ ys.length ≤ c ∧ B8.C W A ys.length ys ∧ ∀ {b : Nat} {v' : Value}, Hdr W b v' → ∀ a, A = some a → 1 ≤ ys.length → a.block ≠ b := by
  obtain ⟨A, c, rfl, hl, hc⟩ := Kd.R_reads (own_int h (ok := fun _ => True) (fun _ _ => trivial))
  refine ⟨A, c, rfl, hl, hc, ?_⟩
  rintro b v' hb a rfl _ rfl
  exact row_ne hb h rfl

/-- A buffer of the call's own, at the first new block. -/
structure Mine (w W : World) (v : Value) (xs : List Int) : Prop where
  buf : IsBuf W w.heap.size v xs
  own : ∀ k, v.ownBlock = some k → w.heap.size ≤ k
  below : Below w.heap.size w W

theorem mine_first (w : World) : Mine w (w.alloc (.cells #[.slice none 0 0, .int .i64 0, .int .i8 0] 207)) (.slice none 0 0) [] :=
  ⟨⟨⟨0, blk_new _ _⟩, ⟨rfl, .inl ⟨rfl, rfl⟩⟩⟩, fun k hk => by simp [Value.ownBlock] at hk, below_alloc (Below.refl _ _) _⟩

theorem Mine.call {w W W' : World} {v : Value} {xs : List Int} (h : Mine w W v xs) (hb : Below W.heap.size W W') : Mine w W' v xs := by
  obtain ⟨⟨⟨lr, hh⟩, ho⟩, hk, hB⟩ := h
  exact ⟨⟨⟨lr, blk_below hh hb⟩, pw_own_below ho hb⟩, hk, hB.trans (hb.mono hB.size)⟩

theorem Mine.wrote {w W W' : World} {v : Value} {xs ys : List Int} {e0 e : Ending} (h : Mine w W v xs) (hw : Wrote W w.heap.size v ys e0 e W') : e = e0 ∧ ∃ v', Mine w W' v' ys := by
  obtain ⟨he, v', hbuf, hrow, hon⟩ := hw
  refine ⟨he, v', hbuf, ?_, h.below.trans (hon.below h.below.size ?_)⟩
  · intro k hk
    rcases hrow with h1 | ⟨N, h1, h2⟩
    · exact h.own k (h1 ▸ hk)
    · rw [h1] at hk
      injection hk with hk
      have := h.below.size
      omega
  · rintro i (rfl | hi)
    · exact Nat.le_refl _
    · exact h.own i hi.symm

theorem Mine.shelf {w W : World} {v : Value} {xs : List Int} (h : Mine w W v xs) : Lib.IsBuffer 207 5 w.heap.size w.heap.size (nums .u8 xs) W := by
  obtain ⟨⟨⟨lr, hh⟩, ho⟩, hk, hB⟩ := h
  refine ⟨Nat.le_refl _, v, lr, hh, ?_, row_ne ⟨lr, hh⟩ ho⟩
  rw [nums_length]
  exact own_base_at ho hk

/-- the bytes of a packet in memory -/
def pkBytes (cls tag : Int) (c : Bool) (data : List Int) : List Int := identT cls tag c ++ lenBytes data.length ++ data

set_option maxHeartbeats 400000 in
set_option maxRecDepth 100000 in
theorem bytes_any {base : Nat} {ok : Nat → Prop} {b db : Nat} {v bv cv : Value} (cls tag : Int) (c : Bool) (h0 : 0 ≤ cls) (h1 : cls ≤ 3) (t0 : 0 ≤ tag) (t1 : tag < 268435456) (x : Pk) (hx0 : x.cls = cls * 64) (hx1 : x.typ = if c then 32 else 0) (hx2 : x.tag = tag)
    (hl : x.data.length < 1099511627776) (w : World) (P : Parts w base ok b x db v bv cv) :
    Calls Tryd.prog 108 #[.pointer (some ⟨b, 0, none⟩)] w fun e w' => ∃ r, e = .returned r ∧ w'.ownsRow w.heap.size 5 1 r (pkBytes cls tag c x.data).length (nums .u8 (pkBytes cls tag c x.data)) ∧ Below w.heap.size w w' := by
  have hid := fun W => ident_any cls tag c h0 h1 t0 t1 W
  have hle := fun W => encLen_any x.data.length (by simp; omega) W
  have hil := identT_le' cls tag c t0 t1
  have hll := lenBytes_le x.data.length (by simp; omega)
  rw [← hx0, ← hx1] at hid
  have HI := Lib.hid hid
  have HL := Lib.hid hle
  have HX := Lib.hid hx2
  clear hid hle
  have M0 := mine_first w
  have c0 : (w.alloc (.cells #[.slice none 0 0, .int .i64 0, .int .i8 0] 207)).cell? ⟨b, 0, none⟩ = some (.int .u8 x.cls) := (P.below M0.below).cell 0
  have c1 : (w.alloc (.cells #[.slice none 0 0, .int .i64 0, .int .i8 0] 207)).cell? ⟨b, 1, none⟩ = some (.int .u8 x.typ) := (P.below M0.below).cell 1
  have c2 : (w.alloc (.cells #[.slice none 0 0, .int .i64 0, .int .i8 0] 207)).cell? ⟨b, 2, none⟩ = some (.int .u64 tag) := ((P.below M0.below).cell 2).trans (by rw [← hx2]; rfl)
  have HM := Lib.hid M0
  have HP := Lib.hid P
  obtain ⟨W0, hW0⟩ : ∃ W0, W0 = w.alloc (.cells #[.slice none 0 0, .int .i64 0, .int .i8 0] 207) := ⟨_, rfl⟩
  have HW0 := Lib.hid hW0
  clear M0 hW0 P hx2 hx0 hx1
  obtain ⟨fin, hfin⟩ : ∃ fin, fin = pkBytes cls tag c x.data := ⟨_, rfl⟩
  rw [← hfin]
  have HF := Lib.hid hfin
  clear hfin
  go_enter Tryd.func108, Tryd.ntmps108
  go_wp2_with (first
    | (go_at_call 114
       rw [← HW0.out] at HM ⊢
       clear c0 c1 c2
       with_reducible refine (HI.out W0).mono ?_
       rintro e W1 ⟨v1, rfl, ho1, hB1⟩
       obtain ⟨A1, d1, rfl, hl1, hc1, hne1⟩ := own_row_parts ho1
       have HW1 := Lib.hid (write_row w.heap.size _ _ (identT cls tag c) A1 d1 W1 (HM.out.call hB1).buf hc1 (hne1 (HM.out.call hB1).buf.1) (by simp; omega))
       have HM1 := Lib.hid (HM.out.call hB1)
       clear ho1 hB1 hl1 hc1 hne1)
    | (go_at_call 88
       with_reducible refine HW1.out.mono ?_
       rintro e W2 hw
       obtain ⟨rfl, v2, hM2⟩ := HM1.out.wrote hw
       have HM2 := Lib.hid hM2
       have c5 : W2.cell? ⟨b, 5, none⟩ = some (.pointer (some ⟨db, 0, none⟩)) := (HP.out.below hM2.below).cell 5
       have HL1 := Lib.hid (Tryd.Buffer_Len 0 db (nums .u8 x.data) W2 (HP.out.below hM2.below).buf.shelf)
       clear hw hM2 HW1))
  go_wp2_with (first
    | (go_at_call 111
       with_reducible refine HL1.out.mono ?_
       rintro e W3 ⟨rfl, n3, hW3⟩
       have HM3 := Lib.hid (HM2.out.call (hW3 ▸ pw_below_drewN (Below.refl _ W2) n3))
       clear hW3 HM2 HM1 HL1 c5
       rw [nums_length])
    | (go_at_call 105
       with_reducible refine (HL.out W3).mono ?_
       rintro e W4 ⟨v4, rfl, hR4, hB4⟩
       obtain ⟨A4, d4, rfl, hl4, hc4, hne4⟩ := own_row_parts (int_own hR4)
       have HW4 := Lib.hid (write_row w.heap.size _ _ (lenBytes x.data.length) A4 d4 W4 (HM3.out.call hB4).buf hc4 (hne4 (HM3.out.call hB4).buf.1) (by simp; omega))
       have HM4 := Lib.hid (HM3.out.call hB4)
       clear hR4 hB4 hl4 hc4 hne4 HM3)
    | (go_at_call 88
       with_reducible refine HW4.out.mono ?_
       rintro e W5 hw
       obtain ⟨rfl, v5, hM5⟩ := HM4.out.wrote hw
       have HM5 := Lib.hid hM5
       have c5 : W5.cell? ⟨b, 5, none⟩ = some (.pointer (some ⟨db, 0, none⟩)) := (HP.out.below hM5.below).cell 5
       have HB5 := Lib.hid (Tryd.Buffer_Bytes 0 db (nums .u8 x.data) W5 (HP.out.below hM5.below).buf.shelf)
       clear hw hM5 HW4 HM4))
  go_wp2_with (first
    | (go_at_call 104
       with_reducible refine HB5.out.mono ?_
       rintro e W6 ⟨v6, rfl, ho6, n6, hW6⟩
       rw [nums_length] at ho6
       obtain ⟨A6, d6, rfl, hl6, hc6, hne6⟩ := own_row_parts ho6
       have hM6 := HM5.out.call (hW6 ▸ pw_below_drewN (Below.refl _ W5) n6)
       have HW6 := Lib.hid (write_row w.heap.size _ _ x.data A6 d6 W6 hM6.buf hc6 (hne6 hM6.buf.1) (by simp; omega))
       have HM6 := Lib.hid hM6
       clear hW6 HM5 HB5 c5 ho6 hl6 hc6 hne6 hM6)
    | (go_at_call 88
       with_reducible refine HW6.out.mono ?_
       rintro e W7 hw
       obtain ⟨rfl, v7, hM7⟩ := HM6.out.wrote hw
       have HM7 := Lib.hid hM7
       have HB7 := Lib.hid (Tryd.Buffer_Bytes w.heap.size w.heap.size _ W7 hM7.shelf)
       clear hw hM7 HW6 HM6))
  go_wp2_with (go_at_call 104; with_reducible refine HB7.out.mono ?_; rintro e W8 ⟨v8, rfl, ho8, n8, hW8⟩)
  go_ret
  rw [nums_length] at ho8
  subst hW8
  refine ⟨v8, rfl, ?_, pw_below_drewN HM7.out.below n8⟩
  rw [HF.out, pkBytes]
  simpa using ho8
end Go.Proofs.YtbmcpjkhnhbjdaaDoor.Ber

namespace Go.Proofs.YtbmcpjkhnhbjdaaDoor.Ber
open Go.RowKit Go.Proofs.YtbmcpjkhnhbjdaaDoorW.PrintWords Go.Proofs.YtbmcpjkhnhbjdaaDoor.Buf Go.Proofs.YtbmcpjkhnhbjdaaDoor.Pk Go.Proofs.YtbmcpjkhnhbjdaaDoor.Num Go.Proofs.YtbmcpjkhnhbjdaaDoor.Ident
set_option linter.unusedVariables false
set_option linter.unusedSimpArgs false

theorem infoP : (Tryd.prog.info? 118).map (fun i => (i.zero, i.size, i.bytes)) = some (some (.pointer none), 1, 8) := by kernel_rfl

/-- The end: the grown row in the struct. -/
theorem app_end {W2 w1 : World} {base : Nat} {ok : Nat → Prop} {b db : Nat} {v bv cv v1 : Value} {x y : Pk} (P : Parts W2 base ok b x db v bv cv)
    (hR : kPk.R TP w1 base (fun k => ok k ∧ k ≠ b ∧ k ≠ db ∧ some k ≠ v.ownBlock) v1 (x.kids ++ [y])) (hg : W2.grownBy w1 cv.ownBlock) :
    Parts (w1.setCell ⟨b, 6, none⟩ v1) base ok b { x with kids := x.kids ++ [y] } db v bv v1 ∧ Only (fun i => i = b ∨ some i = cv.ownBlock) W2 (w1.setCell ⟨b, 6, none⟩ v1) := by
  obtain ⟨h0, inner, ho, hr⟩ := P.rk
  have hne : some b ≠ cv.ownBlock := fun e => (h0 b e.symm).2.1 rfl
  have hned : some db ≠ cv.ownBlock := fun e => (h0 db e.symm).2.2.1 rfl
  have hbw : w1.heap[b]? = some (.cells (cellsOf x bv db cv) T (0, 0)) := blk_grown P.hb hg hne
  obtain ⟨lr, hd⟩ := P.hd
  have hdw : w1.heap[db]? = some (.cells #[v, .int .i64 0, .int .i8 lr] TB (0, 0)) := blk_grown hd hg hned
  have hkeep : ∀ {k : Nat} {cs : Array Value}, W2.heap[k]? = some (.cells cs 5 (0, 0)) → k < W2.heap.size → (w1.setCell ⟨b, 6, none⟩ v1).heap[k]? = W2.heap[k]? := by
    intro k cs hc hk
    have h1 : k ≠ b := blk_ne hc P.hb (by decide)
    have h2 : some k ≠ cv.ownBlock := fun e => by
      obtain ⟨cells, hc'⟩ := own_typed ho k e.symm
      exact blk_ne hc hc' (by decide) rfl
    exact (Below.heap_setCell w1 ⟨b, 6, none⟩ v1 k h1).trans (hg.block k hk h2)
  refine ⟨⟨P.val, P.okb, P.leb, P.okd, P.led, ?_, ⟨lr, blk_far hdw (p := ⟨b, 6, none⟩) (Ne.symm P.dne) v1⟩, ?_, ?_, ?_⟩, ?_⟩
  · exact Lib.heap_setCell_same (i := 6) hbw v1
  · refine Kd.R_mono (Kd.R_move (Kd.R_bound P.rv) ?_) (fun k hk => hk.1)
    rintro k ⟨k1, k2, k3, q, hq, cells, hc⟩
    rcases List.mem_cons.1 hq with rfl | hq
    · exact hkeep hc k3
    · exact absurd hq (by simp [Kd.int, Kd.scalar])
  · refine Kd.R_mono (Kd.R_move (Kd.R_bound P.rb) ?_) (fun k hk => hk.1)
    rintro k ⟨k1, k2, k3, q, hq, cells, hc⟩
    rcases List.mem_cons.1 hq with rfl | hq
    · exact hkeep hc k3
    · exact absurd hq (by simp [Kd.int, Kd.scalar])
  · exact Kd.R_far hR (p := ⟨b, 6, none⟩) (fun k hk => hk.2.1) v1
  · have h1 : Only (fun i => i = b ∨ some i = cv.ownBlock) W2 w1 := ⟨hg.os, hg.tape, hg.output, hg.size, fun i hi hn => hg.block i hi (fun e => hn (Or.inr e))⟩
    exact h1.setCell (a := ⟨b, 6, none⟩) (fun _ => Or.inl rfl) v1

theorem Parts.okmono {w : World} {base : Nat} {ok ok' : Nat → Prop} {b : Nat} {x : Pk} {db : Nat} {v bv cv : Value} (h : Parts w base ok b x db v bv cv) (hok : ∀ k, ok k → ok' k) : Parts w base ok' b x db v bv cv :=
  ⟨h.val, hok _ h.okb, h.leb, hok _ h.okd, h.led, h.hb, h.hd, Kd.R_mono h.rv hok, Kd.R_mono h.rb (fun k hk => ⟨hok k hk.1, hk.2⟩), Kd.R_mono h.rk (fun k hk => ⟨hok k hk.1, hk.2⟩)⟩

set_option maxHeartbeats 800000 in
set_option maxRecDepth 100000 in
theorem append_any {base : Nat} {ok okc : Nat → Prop} {b db q dq : Nat} {v bv cv vq bq cq : Value} (cls tag : Int) (c : Bool) (h0 : 0 ≤ cls) (h1 : cls ≤ 3) (t0 : 0 ≤ tag) (t1 : tag < 268435456) (x y : Pk) (hx0 : y.cls = cls * 64) (hx1 : y.typ = if c then 32 else 0) (hx2 : y.tag = tag)
    (hy : y.data.length < 1099511627776) (hl : x.data.length < 1099511627776) (hk : x.kids.length < 1099511627776) (w : World) (P : Parts w base ok b x db v bv cv) (C : Parts w base okc q y dq vq bq cq) (hd : ∀ k, okc k → ¬ ok k) (hc : ∀ k, okc k → k < w.heap.size) (hbase : base ≤ w.heap.size) (hokb : ∀ k, ok k → base ≤ k) :
    Calls Tryd.prog 93 #[.pointer (some ⟨b, 0, none⟩), .pointer (some ⟨q, 0, none⟩)] w fun e w' => (∃ u, e = .returned u) ∧ Only ok w w' ∧
      ∃ v' cv', Parts w' base (fun k => ok k ∨ okc k ∨ w.heap.size ≤ k) b { x with data := x.data ++ pkBytes cls tag c y.data, kids := x.kids ++ [y] } db v' bv cv' := by
  have hdr : Below w.heap.size w w.drew := (Below.refl _ w).drew
  have HBy := Lib.hid (bytes_any cls tag c h0 h1 t0 t1 y hx0 hx1 hx2 hy w.drew (C.below hdr))
  have HC := Lib.hid (C.below hdr)
  have HP := Lib.hid (P.below hdr)
  have c5 : w.cell? ⟨b, 5, none⟩ = some (.pointer (some ⟨db, 0, none⟩)) := P.cell 5
  have hlen : (pkBytes cls tag c y.data).length ≤ 14 + y.data.length := by
    have hil := identT_le' cls tag c t0 t1
    have hll := lenBytes_le y.data.length (by simp; omega)
    simp only [pkBytes, List.length_append]
    omega
  have HLEN := Lib.hid hlen
  clear hx0 hx1 hx2 P C hlen hdr
  go_enter Tryd.func93, Tryd.ntmps93
  go_wp2_with fail
  go_region_with (first
    | (go_at_call 108
       with_reducible refine HBy.out.mono ?_
       rintro e W1 ⟨r1, rfl, ho1, hB1⟩
       obtain ⟨A1, d1, rfl, hl1, hc1, hne1⟩ := own_row_parts ho1
       have c5' : W1.cell? ⟨b, 5, none⟩ = some (.pointer (some ⟨db, 0, none⟩)) := (HP.out.below hB1).cell 5
       have HW1 := Lib.hid (write_row db _ _ (pkBytes cls tag c y.data) A1 d1 W1 (HP.out.below hB1).buf hc1 (hne1 (HP.out.below hB1).buf.1) (by have := HLEN.out; omega))
       have HP1 := Lib.hid (HP.out.below hB1)
       have HC1 := Lib.hid (HC.out.below hB1)
       have HB1 := Lib.hid hB1
       clear ho1 hB1 hl1 hc1 hne1)
    | (go_at_call 88
       with_reducible refine HW1.out.mono ?_
       rintro e W2 hw
       obtain ⟨rfl, hO2, v2, hP2⟩ := HP1.out.wrote hw (Nat.le_trans hbase HB1.out.size)
       have HO2 := Lib.hid hO2
       have HP2 := Lib.hid hP2
       clear hw hO2 hP2))
  all_goals (
    have hB2 : Below base w W2 := ((Below.refl base w).drew.trans (HB1.out.mono hbase)).trans (HO2.out.below (Nat.le_trans hbase HB1.out.size) hokb)
    have hs2 : w.heap.size ≤ W2.heap.size := hB2.size
    have P2 : Parts W2 base (fun k => ok k ∨ okc k ∨ w.heap.size ≤ k) b _ db v2 bv cv := HP2.out.okmono (fun k hk => hk.elim Or.inl (fun h => Or.inr (Or.inr (Nat.le_trans HB1.out.size h))))
    have hm : kPk.M W2 base okc y [.pointer (some ⟨q, 0, none⟩)] := HC1.out.pk.only HO2.out hd
    have hv2 : ∀ k, v2.ownBlock = some k → ok k ∨ w.heap.size ≤ k := fun k hk => (HP2.out.rv.1 k hk).imp id (fun h => Nat.le_trans HB1.out.size h)
    have hcv : ∀ k, cv.ownBlock = some k → ok k := fun k hk => (HP1.out.rk.1 k hk).1
    have hnew : ∀ k, okc k → ¬ (ok k ∨ w.heap.size ≤ k) := fun k h1 h2 => h2.elim (hd k h1) (fun h => absurd (hc k h1) (by omega))
    have hokp : ∀ k, okc k → ((ok k ∨ okc k ∨ w.heap.size ≤ k) ∧ k ≠ b ∧ k ≠ db ∧ some k ≠ v2.ownBlock) ∧ some k ≠ cv.ownBlock := fun k h1 =>
      ⟨⟨Or.inr (Or.inl h1), fun e => hd k h1 (e ▸ HP1.out.okb), fun e => hd k h1 (e ▸ HP1.out.okd), fun e => hnew k h1 (hv2 k e.symm)⟩, fun e => hd k h1 (hcv k e.symm)⟩
    have hfresh : ∀ k, W2.heap.size ≤ k → (ok k ∨ okc k ∨ w.heap.size ≤ k) ∧ k ≠ b ∧ k ≠ db ∧ some k ≠ v2.ownBlock := fun k h1 => by
      obtain ⟨lr, hd2⟩ := P2.hd
      have e1 := blk_lt P2.hb
      have e2 := blk_lt hd2
      exact ⟨Or.inr (Or.inr (by omega)), by omega, by omega, fun e => by have := own_lt (int_own P2.rv) k e.symm; omega⟩
    have c6 : W2.cell? ⟨b, 6, none⟩ = some cv := P2.cell 6
    have u6 : ∀ o, (W2.alloc o).cell? ⟨b, 6, none⟩ = some cv := fun o => blk_cell (blk_alloc P2.hb o) 6
    have HP3 := Lib.hid P2
    have HM := Lib.hid hm
    have HK := Lib.hid hokp
    have HF := Lib.hid hfresh
    have HB2 := Lib.hid hB2
    have hO : Only ok w W2 := ((Only.of_below ok (Below.refl _ w).drew).trans (Only.of_below ok HB1.out) (fun _ _ h => h)).trans HO2.out (fun _ _ h => h)
    have HO3 := Lib.hid hO
    have HS : Hid (∀ i, i = b ∨ some i = cv.ownBlock → ok i) := Lib.hid (fun i h => h.elim (fun e => e ▸ HP1.out.okb) (fun e => hcv i e.symm))
    clear hO hB2 P2 hm hokp hfresh hnew hcv hv2 HB1 HC1 HP1 HW1 HP2
    go_wp2_with (at_builtin
                 refine Kd.R_append kPk (w0 := w) (W := W2) base rfl (.tmp 15) (.tmp 17) 154 TP (.pointer none) 8 rfl Tryd.underlying154 infoP rfl (by decide) (by decide) cv x.kids y _ _ okc rfl rfl HM.out HK.out HF.out HP3.out.rk HB2.out (Nat.le_trans hbase HB2.out.size) (by omega) ?_
                 intro v1 w1 hR1 hb1 hg1 hat1
                 have hne : some b ≠ cv.ownBlock := fun e => (HP3.out.rk.1 b e.symm).2.1 rfl
                 have x6 : w1.cell? ⟨b, 6, none⟩ = some cv := blk_cell (blk_grown HP3.out.hb hg1 hne) 6
                 have xf : w1.frozen? ⟨b, 6, none⟩ = false := blk_frozen (blk_grown HP3.out.hb hg1 hne) 6
                 have he := app_end HP3.out hR1 hg1
                 obtain ⟨Aq, cq', hvq, _, _⟩ := Kd.R_reads hR1
                 subst hvq
                 have e1 : (x.kids ++ [y]).length = x.kids.length + 1 := by simp
                 simp only [e1] at he
                 have HE := Lib.hid he
                 clear e1 he hR1 hb1 hg1 hat1 hne)
    refine bodyPost_end (results_none rfl _ _ _) rfl ⟨⟨_, rfl⟩, HO3.out.trans HE.out.2 (fun i _ h => HS.out i h), _, _, HE.out.1⟩)
end Go.Proofs.YtbmcpjkhnhbjdaaDoor.Ber
namespace Go.Proofs.YtbmcpjkhnhbjdaaDoor.Ber
open Go.RowKit Go.Proofs.YtbmcpjkhnhbjdaaDoorW.PrintWords Go.Proofs.YtbmcpjkhnhbjdaaDoor.Buf Go.Proofs.YtbmcpjkhnhbjdaaDoor.Pk Go.Proofs.YtbmcpjkhnhbjdaaDoor.Num Go.Proofs.YtbmcpjkhnhbjdaaDoor.Ident Go.Proofs.YtbmcpjkhnhbjdaaDoor.Tree Go.Proofs.YtbmcpjkhnhbjdaaDoor.PFnEncode
set_option linter.unusedVariables false
set_option linter.unusedSimpArgs false

mutual
/-- the packet as data -/
def trOf : Pk → S27
  | ⟨cls, typ, tag, _, _, data, kids, _⟩ => ⟨cls / 64, tag, decide (typ = 32), if typ = 32 then [] else data, if typ = 32 then trL kids else []⟩
def trL : List Pk → List S27
  | [] => []
  | x :: xs => trOf x :: trL xs
end
mutual
/-- a packet within Go's sizes -/
def okP : Pk → Prop
  | ⟨cls, typ, tag, _, _, data, kids, _⟩ => (0 ≤ cls ∧ cls ≤ 255) ∧ (typ = 0 ∨ typ = 32) ∧ (0 ≤ tag ∧ tag < 268435456) ∧ data.length < 1099511627776 ∧ kids.length < 1099511627776 ∧ okL kids
def okL : List Pk → Prop
  | [] => True
  | x :: xs => okP x ∧ okL xs
end
mutual
/-- how deep -/
def dp : Pk → Nat
  | ⟨_, _, _, _, _, _, kids, _⟩ => dpL kids + 1
def dpL : List Pk → Nat
  | [] => 0
  | x :: xs => max (dp x) (dpL xs)
end
theorem trL_append (l m : List Pk) : trL (l ++ m) = trL l ++ trL m := by
  induction l with
  | nil => rfl
  | cons x xs ih => rw [List.cons_append, trL, trL, ih]; rfl
theorem trL_length (l : List Pk) : (trL l).length = l.length := by
  induction l with
  | nil => rfl
  | cons x xs ih => rw [trL, List.length_cons, List.length_cons, ih]
theorem okL_mem : ∀ {l : List Pk} {x : Pk}, okL l → x ∈ l → okP x
  | y :: ys, x, h, hx => by
    rw [okL] at h
    rcases List.mem_cons.1 hx with rfl | hx
    · exact h.1
    · exact okL_mem h.2 hx
theorem dpL_mem : ∀ {l : List Pk} {x : Pk}, x ∈ l → dp x ≤ dpL l
  | y :: ys, x, hx => by
    rw [dpL]
    rcases List.mem_cons.1 hx with rfl | hx
    · exact Nat.le_max_left _ _
    · exact Nat.le_trans (dpL_mem hx) (Nat.le_max_right _ _)

/-- the kid at a place -/
theorem kid_at {w : World} {base : Nat} {ok : Nat → Prop} {v : Value} {xs : List Pk} (h : kPk.R TP w base ok v xs) {k : Nat} (hk : k < xs.length) :
    ∃ ad cap q, v = .slice (some ad) xs.length cap ∧ w.cell? (ad.add k) = some (.pointer (some ⟨q, 0, none⟩)) ∧ IsPk w base ok q xs[k] := by
  obtain ⟨h0, inner, ho, hr⟩ := h
  have hsz : kPk.sz = 1 := rfl
  rw [hsz] at ho hr
  obtain ⟨hl, ho⟩ := ho
  rcases ho with ⟨_, hn⟩ | ⟨g, cap, cur, rfl, hg, hcur, hc1, hc2, hc3, hc4⟩
  · omega
  · have hM := hr.2 k _ (List.getElem?_eq_getElem hk)
    rw [Nat.mul_one] at hM
    obtain ⟨hv, q, db, v', bv, cv, lr, e, hrest⟩ := open_M hM
    refine ⟨⟨g, 0, none⟩, cap, q, rfl, ?_, ?_⟩
    · have h1 : inner[k]? = some (.pointer (some ⟨q, 0, none⟩)) := by
        have := congrArg (fun l => l[0]?) e
        simp only [List.getElem?_take_of_lt (show 0 < 1 by decide), List.getElem?_drop] at this
        simpa using this
      rw [← hc4, Nat.mul_one, List.getElem?_take_of_lt hk, Array.getElem?_toList] at h1
      have := blk_cell hcur k
      rw [h1] at this
      rw [← this]
      congr 1
      unfold Addr.add
      simp
      intros
      omega
    · rw [e] at hM
      exact kPk.M_mono (fun k hk => hk.1) hM
end Go.Proofs.YtbmcpjkhnhbjdaaDoor.Ber

namespace Go.Proofs.YtbmcpjkhnhbjdaaDoor.Ber
open Go.RowKit Go.Proofs.YtbmcpjkhnhbjdaaDoorW.PrintWords Go.Proofs.YtbmcpjkhnhbjdaaDoor.Buf Go.Proofs.YtbmcpjkhnhbjdaaDoor.Pk Go.Proofs.YtbmcpjkhnhbjdaaDoor.Num Go.Proofs.YtbmcpjkhnhbjdaaDoor.Ident
set_option linter.unusedVariables false
set_option linter.unusedSimpArgs false

/-- a packet with a child more -/
def addK (x y : Pk) : Pk := { x with data := x.data ++ pkBytes (y.cls / 64) y.tag (decide (y.typ = 32)) y.data, kids := x.kids ++ [y] }

/-- what may become a child -/
structure Top (y : Pk) (n : Nat) : Prop where
  c0 : 0 ≤ y.cls
  c1 : y.cls ≤ 192
  cm : y.cls % 64 = 0
  ty : y.typ = 0 ∨ y.typ = 32
  t0 : 0 ≤ y.tag
  t1 : y.tag < 268435456
  ln : y.data.length ≤ n
  nk : y.kids.length ≤ n

theorem Top.le {y : Pk} {n m : Nat} (h : Top y n) (hnm : n ≤ m) : Top y m := ⟨h.c0, h.c1, h.cm, h.ty, h.t0, h.t1, Nat.le_trans h.ln hnm, Nat.le_trans h.nk hnm⟩

theorem addK_top {x y : Pk} {n m : Nat} (hx : Top x n) (hy : Top y m) (hm : m < 1000000000000) : Top (addK x y) (n + 14 + m) := by
  refine ⟨hx.c0, hx.c1, hx.cm, hx.ty, hx.t0, hx.t1, ?_, ?_⟩
  · have h1 := identT_le' (y.cls / 64) y.tag (decide (y.typ = 32)) hy.t0 hy.t1
    have h2 := lenBytes_le y.data.length (by have := hy.ln; simp; omega)
    have := hx.ln
    have := hy.ln
    show (x.data ++ pkBytes _ _ _ _).length ≤ _
    simp only [pkBytes, List.length_append]
    omega
  · have := hx.nk
    show (x.kids ++ [y]).length ≤ _
    simp
    omega

/-- The packet x lies at q since W1; now is W; its blocks are from base on. -/
structure At (W1 W : World) (base q : Nat) (x : Pk) : Prop where
  is : IsPk W1 base (fun _ => True) q x
  bel : Below W1.heap.size W1 W
  le : base ≤ W1.heap.size

theorem At.go {W1 W W' : World} {base q : Nat} {x : Pk} (h : At W1 W base q x) {B : Nat} (hb : Below B W W') (hB : W1.heap.size ≤ B) : At W1 W' base q x :=
  ⟨h.is, h.bel.trans (hb.mono hB), h.le⟩
theorem At.on {W1 W W' : World} {base q : Nat} {x : Pk} (h : At W1 W base q x) (hb : Below W.heap.size W W') : At W1 W' base q x := h.go hb h.bel.size
theorem Made.at {w w' : World} {x : Pk} {e : Ending} (h : Made w x e w') : ∃ q, e = .returned (.pointer (some ⟨q, 0, none⟩)) ∧ At w' w' w.heap.size q x ∧ Below w.heap.size w w' := by
  obtain ⟨q, he, hi, hb⟩ := h
  exact ⟨q, he, ⟨hi, Below.refl _ _, hb.size⟩, hb⟩

/-- AppendChild: the child is younger than the parent's last change. -/
theorem app_at {W1 W2 W : World} {base b2 q qc : Nat} {x y : Pk} {n m : Nat} (hx : At W1 W base q x) (hy : At W2 W b2 qc y) (hb : W1.heap.size ≤ b2) (tx : Top x n) (ty : Top y m) (hn : n < 1000000000000) (hm : m < 1000000000000) :
    Calls Tryd.prog 93 #[.pointer (some ⟨q, 0, none⟩), .pointer (some ⟨qc, 0, none⟩)] W fun e w' => (∃ u, e = .returned u) ∧ At w' w' base q (addK x y) ∧ Below base W w' := by
  have hbs := hx.le
  have hs1 := hx.bel.size
  obtain ⟨db, v, bv, cv, P⟩ := parts_of (hx.is.bound.below hx.bel)
  obtain ⟨dq, vq, bq, cq, C⟩ := parts_of ((hy.is.bound.below hy.bel).lower (base' := base) (by omega))
  have hs2 := hy.bel.size
  have hl := tx.ln
  have hl2 := ty.ln
  have hk := tx.nk
  have h0 := ty.c0
  have h1 := ty.c1
  have h2 := ty.cm
  have e1 : y.cls = y.cls / 64 * 64 := by omega
  have e2 : y.typ = if decide (y.typ = 32) = true then 32 else 0 := by
    rcases ty.ty with h | h <;> simp [h]
  refine (append_any (y.cls / 64) y.tag (decide (y.typ = 32)) (by omega) (by omega) ty.t0 ty.t1 x y e1 e2 rfl (by omega) (by omega) (by omega) W P C ?_ (fun j h1 => Nat.lt_of_lt_of_le h1.2.2 hs2) (Nat.le_trans hbs hs1) (fun j h1 => h1.2.1)).mono ?_
  · intro j h1 h2
    have h3 := h1.2.1
    have h4 := h2.2.2
    omega
  · rintro e W7 ⟨hu, hO7, v7, cv7, hP7⟩
    have h7 := (hP7.okmono (ok' := fun _ => True) (fun _ _ => trivial)).pk
    have hB := hO7.below (Nat.le_trans hbs hs1) (fun i hi => hi.2.1)
    exact ⟨hu, ⟨h7, Below.refl _ _, Nat.le_trans (Nat.le_trans hbs hs1) hB.size⟩, hB⟩

theorem bare_top (cls typ tag : Int) (val : Value) (desc : ByteArray) (h0 : 0 ≤ cls) (h1 : cls ≤ 192) (h2 : cls % 64 = 0) (h3 : typ = 0 ∨ typ = 32) (h4 : 0 ≤ tag) (h5 : tag < 268435456) : Top (bare cls typ tag val desc) 0 :=
  ⟨h0, h1, h2, h3, h4, h5, Nat.le_refl _, Nat.zero_le _⟩
theorem prim_top (cls typ tag : Int) (val : Value) (data : List Int) (desc : ByteArray) (h0 : 0 ≤ cls) (h1 : cls ≤ 192) (h2 : cls % 64 = 0) (h3 : typ = 0 ∨ typ = 32) (h4 : 0 ≤ tag) (h5 : tag < 268435456) {n : Nat} (hn : data.length ≤ n) : Top (prim cls typ tag val data desc) n :=
  ⟨h0, h1, h2, h3, h4, h5, hn, Nat.zero_le _⟩

theorem encode_at (cls typ tag : Int) (desc : ByteArray) (w : World) :
    Calls Tryd.prog 87 #[.int .u8 cls, .int .u8 typ, .int .u64 tag, .nilIface, .string desc] w fun e w' => ∃ q, e = .returned (.pointer (some ⟨q, 0, none⟩)) ∧ At w' w' w.heap.size q (bare cls typ tag .nilIface desc) ∧ Below w.heap.size w w' :=
  (encode_nil cls typ tag desc w).mono fun _ _ h => h.at
theorem string_at (cls typ tag : Int) (s desc : ByteArray) (w : World) (hs : s.size ≤ 140737488355328) :
    Calls Tryd.prog 62 #[.int .u8 cls, .int .u8 typ, .int .u64 tag, .string s, .string desc] w fun e w' => ∃ q, e = .returned (.pointer (some ⟨q, 0, none⟩)) ∧ At w' w' w.heap.size q (prim cls typ tag (strV s) (bytesOf s) desc) ∧ Below w.heap.size w w' :=
  (newString_any cls typ tag s desc w hs).mono fun _ _ h => h.at

end Go.Proofs.YtbmcpjkhnhbjdaaDoor.Ber

namespace Go.Proofs.YtbmcpjkhnhbjdaaDoor.Ber
open Go.RowKit Go.Proofs.YtbmcpjkhnhbjdaaDoorW.PrintWords Go.Proofs.YtbmcpjkhnhbjdaaDoor.Buf Go.Proofs.YtbmcpjkhnhbjdaaDoor.Pk
set_option linter.unusedVariables false
set_option linter.unusedSimpArgs false

end Go.Proofs.YtbmcpjkhnhbjdaaDoor.Ber
namespace Go.Proofs.YtbmcpjkhnhbjdaaDoor.Ber
open Go.RowKit Go.Proofs.YtbmcpjkhnhbjdaaDoorW.PrintWords Go.Proofs.YtbmcpjkhnhbjdaaDoor.Buf Go.Proofs.YtbmcpjkhnhbjdaaDoor.Pk Go.Proofs.YtbmcpjkhnhbjdaaDoor.Num
set_option linter.unusedVariables false
set_option linter.unusedSimpArgs false

/-- 'p.Data.Write(row)': a row that the call has just made. -/
theorem write_own {w W : World} {base : Nat} {ok : Nat → Prop} {b : Nat} {x : Pk} {db : Nat} {v bv cv : Value} (P : Parts w base ok b x db v bv cv) (hbase : base ≤ w.heap.size) (hb3 : Below w.heap.size w W) {A : Option Addr} {c : Nat} {ys : List Int} (hr : B8.C W A ys.length ys)
    (hA : ∀ a, A = some a → w.heap.size ≤ a.block) (hlim : x.data.length + ys.length ≤ 140737488355328) :
    Calls Tryd.prog 88 #[.pointer (some ⟨db, 0, none⟩), .slice A ys.length c] W fun e w' => e = .returned (.tuple #[.int .i64 ys.length, .nilIface]) ∧
      ∃ v', Parts w' base (fun k => ok k ∨ w.heap.size ≤ k) b { x with data := x.data ++ ys } db v' bv cv ∧ Only ok w w' := by
  have P3 := P.below hb3
  have hwr := write_row db v x.data ys A c _ P3.buf hr (fun a ha _ => by
    obtain ⟨lr, h4⟩ := P.hd
    have := blk_lt h4
    have := hA a ha
    omega) hlim
  refine hwr.mono fun e w' hw => ?_
  obtain ⟨rfl, ho4, v', P4⟩ := P3.wrote hw (by have := hb3.size; omega)
  exact ⟨rfl, v', ⟨P4.val, Or.inl P.okb, P4.leb, Or.inl P.okd, P4.led, P4.hb, P4.hd, Kd.R_mono P4.rv (fun k hk => hk.imp id (fun h => by have := hb3.size; omega)), Kd.R_mono P4.rb (fun k hk => ⟨hk.1.imp id (fun h => by have := hb3.size; omega), hk.2⟩),
    Kd.R_mono P4.rk (fun k hk => ⟨hk.1.imp id (fun h => by have := hb3.size; omega), hk.2⟩)⟩, (Only.of_below ok hb3).trans ho4 (fun _ _ h => h)⟩

/-- A row of the call's own that was made since W's beginning lies in a new block. -/
theorem own_new {w : World} {base : Nat} {ok : Nat → Prop} {v : Value} {ys : List Int} (h : B8.R 5 w base ok v ys) : ∃ A c, v = .slice A ys.length c ∧ B8.C w A ys.length ys ∧ ∀ a, A = some a → base ≤ a.block := by
  obtain ⟨A, c, rfl, _, hr⟩ := Kd.R_reads h
  refine ⟨A, c, rfl, hr, ?_⟩
  rintro a rfl
  exact own_base (int_own h) a.block rfl

theorem ta_i64_int (n : Int) : ∀ w : World, (Instr.typeAssert (.iface 2 (.int .i64 n)) 20 3 true).run Tryd.prog w = .ok (.tuple #[.int .i64 0, .bool false]) w := fun _ => by kernel_rfl
theorem ta_i64_uint (n : Int) : ∀ w : World, (Instr.typeAssert (.iface 2 (.int .i64 n)) 20 109 true).run Tryd.prog w = .ok (.tuple #[.int .u64 0, .bool false]) w := fun _ => by kernel_rfl
theorem ta_i64_hit (n : Int) : ∀ w : World, (Instr.typeAssert (.iface 2 (.int .i64 n)) 20 2 true).run Tryd.prog w = .ok (.tuple #[.int .i64 n, .bool true]) w := fun _ => by kernel_rfl

set_option maxHeartbeats 6400000 in
set_option maxRecDepth 100000 in
theorem newInt_i64 (cls typ tag n : Int) (desc : ByteArray) (w : World) (hn : -9223372036854775808 ≤ n ∧ n ≤ 9223372036854775807) :
    Calls Tryd.prog 103 #[.int .u8 cls, .int .u8 typ, .int .u64 tag, .iface 2 (.int .i64 n), .string desc] w fun e w' => Made w (prim cls typ tag (.iface 2 (.int .i64 n)) (whole n) desc) e w' := by
  go_enter Tryd.func103, Tryd.ntmps103
  go_wp2_with (go_at_call 87; refine (encode_nil _ _ _ _ _).mono ?_)
  rintro e W1 ⟨b, rfl, hI, hB1⟩
  obtain ⟨db, v, bv, cv, P⟩ := parts_of hI.bound
  obtain ⟨P2, ho2⟩ := P.setVal (.iface 2 (.int .i64 n)) rfl
  have c3 : W1.cell? ⟨b, 3, none⟩ = some .nilIface := P.cell 3
  have f3 := P.frozen 3
  have c5 : (W1.setCell ⟨b, 3, none⟩ (.iface 2 (.int .i64 n))).cell? ⟨b, 5, none⟩ = some (.pointer (some ⟨db, 0, none⟩)) := P2.cell 5
  have hB2 : Below w.heap.size w (W1.setCell ⟨b, 3, none⟩ (.iface 2 (.int .i64 n))) := hB1.setCell (p := ⟨b, 3, none⟩) P.leb _
  have HB2 := Lib.hid hB2
  have HP2 := Lib.hid P2
  clear P P2 hI hB1 hB2 ho2
  have t0 := ta_i64_int n
  have t1 := ta_i64_uint n
  have t2 := ta_i64_hit n
  go_wp2_with fail
  have HHN := Lib.hid hn
  clear hn t0 t1 t2
  go_region_with (first
    | (go_at_call 109
       refine (encInt_any n HHN.out _).mono ?_
       rintro e W3 ⟨v3, rfl, hR3, hb3⟩
       obtain ⟨A, c, rfl, hr3, hA⟩ := own_new hR3
       have hb4 : Below (W1.setCell ⟨b, 3, none⟩ (.iface 2 (.int .i64 n))).heap.size (W1.setCell ⟨b, 3, none⟩ (.iface 2 (.int .i64 n))) W3 := ⟨hb3.os, hb3.tape, hb3.output, hb3.size, hb3.block⟩
       have d5 : W3.cell? ⟨b, 5, none⟩ = some (.pointer (some ⟨db, 0, none⟩)) := (HP2.out.below hb4).cell 5
       have HW := Lib.hid (write_own HP2.out HB2.out.size hb4 hr3 (c := c) hA (by have := wl_le8 n HHN.out; simp [bare, whole, be_length]; omega))
       clear hR3 hr3 hA hb3 hb4)
    | (go_at_call 88
       refine HW.out.mono ?_
       rintro e W4 ⟨rfl, v', P4, ho4⟩))
  all_goals (
    go_wp2
    go_ret
    exact made_intro rfl P4 (HB2.out.trans (ho4.below HB2.out.size (fun i hi => hi.2.1))))

end Go.Proofs.YtbmcpjkhnhbjdaaDoor.Ber
namespace Go.Proofs.YtbmcpjkhnhbjdaaDoor.Ber
open Go.RowKit Go.Proofs.YtbmcpjkhnhbjdaaDoorW.PrintWords Go.Proofs.YtbmcpjkhnhbjdaaDoor.Buf Go.Proofs.YtbmcpjkhnhbjdaaDoor.Pk Go.Proofs.YtbmcpjkhnhbjdaaDoor.Num Go.Proofs.YtbmcpjkhnhbjdaaDoor.Ident Go.Proofs.YtbmcpjkhnhbjdaaDoor.Tree Go.Proofs.YtbmcpjkhnhbjdaaDoor.PFnEncode
set_option linter.unusedVariables false
set_option linter.unusedSimpArgs false

/-- what impl.packet leaves -/
def Un (w : World) (x : S27) (e : Ending) (w' : World) : Prop :=
  ∃ c, e = .returned (.agg c.toArray) ∧ k27.M w' w.heap.size (fun _ => True) x c ∧ Below w.heap.size w w'

theorem results_u {P : Program} {fn : Func} {p : Tmp} {ty : TypeId} (h : fn.results = #[.cell p ty]) (tmps : Array Value) (w : World) (g : Nat) (t : TypeId) (cs : Array Value) (fr : Nat × Nat) (d : TypeDesc)
    (hp : tmps.getD p undef = .pointer (some ⟨g, 0, none⟩)) (hg : w.heap[g]? = some (.cells cs t fr))
    (hu : P.underlying ty = some d) (hd : (match d with | .struct _ | .array _ _ => true | _ => false) = true) (hi : (P.info? ty).map (·.size) = some cs.size) :
    (results fn tmps).run P w = .ok (.agg cs) w := by
  have hp' : tmps[p]?.getD undef = .pointer (some ⟨g, 0, none⟩) := by simpa using hp
  simp [results, h, hp', asAddr, run_loadVar_row w g t ty cs fr d hg hu hd hi]
theorem info_ip : (Tryd.prog.info? 27).map (fun i => (i.zero, i.size, i.bytes)) = some (some (.agg #[.int .i64 0, .int .i64 0, .bool false, .slice none 0 0, .slice none 0 0]), 5, 72) := by kernel_rfl
theorem size_ip : (Tryd.prog.info? 27).map (·.size) = some 5 := by kernel_rfl

/-- bytes.Clone of a row that is read: a row of the call's own. -/
theorem clone_any (xs : List Int) (A : Option Addr) (c : Nat) (w : World) (h : B8.C w A xs.length xs) (hl : xs.length ≤ 140737488355328) :
    Calls Tryd.prog 97 #[.slice A xs.length c] w fun e w' => ∃ v, e = .returned v ∧ B8.R 5 w' w.heap.size (fun _ => True) v xs ∧ Below w.heap.size w w' := by
  rcases A with _ | a
  · have h0 : xs = [] := by
      rcases Nat.eq_zero_or_pos xs.length with h1 | h1
      · exact List.eq_nil_of_length_eq_zero h1
      · obtain ⟨a, ha, _⟩ := Kd.at_int h 0 (by omega) (by omega)
        cases ha
    subst h0
    refine (Tryd.bytes_Clone_nil _ c w).mono ?_
    rintro e w' ⟨rfl, rfl⟩
    exact ⟨_, rfl, Kd.R_nil _ _ _ _ _, Below.refl _ _⟩
  · have hc : ∀ i, i < xs.length → w.cell? (a.add i) = some (.int .u8 (xs.getD i 0)) := by
      intro i hi
      obtain ⟨a', hA', hc'⟩ := Kd.at_int h (i : Int) (by omega) (by omega)
      injection hA' with hA'
      subst hA'
      rw [Int.toNat_natCast] at hc'
      rw [hc']
      rfl
    refine (Tryd.bytes_Clone_at a xs.length c xs w rfl hl hc).mono ?_
    rintro e w' ⟨v', rfl, ho, _, hb⟩
    exact ⟨_, rfl, own_int ho (fun _ _ => trivial), hb⟩

/-- the end: out's cells are laid into the result -/
theorem unpk_end {w W0 W3 : World} {x : S27} {v3 v4 u : Value} {z0 z1 z2 z3 z4 : Value} (hb : Below w.heap.size w W0) (hres : W0.heap[w.heap.size]? = some (.cells #[z0, z1, z2, z3, z4] 27 (0, 0)))
    (h3 : B8.R 5 W0 w.heap.size (fun k => k ≠ w.heap.size ∧ k ≠ w.heap.size + 1) v3 x.f3) (h4 : k27.R 27 W0 w.heap.size (fun k => k ≠ w.heap.size ∧ k ≠ w.heap.size + 1) v4 x.f4)
    (hW3 : W3 = ((((((W0.setCell ⟨w.heap.size + 1, 3, none⟩ u).setCell ⟨w.heap.size, 0, none⟩ (.int .i64 x.f0)).setCell ⟨w.heap.size, 1, none⟩ (.int .i64 x.f1)).setCell ⟨w.heap.size, 2, none⟩ (.bool x.f2)).setCell ⟨w.heap.size, 3, none⟩ v3).setCell ⟨w.heap.size, 4, none⟩ v4)) :
    W3.heap[w.heap.size]? = some (.cells #[.int .i64 x.f0, .int .i64 x.f1, .bool x.f2, v3, v4] 27 (0, 0)) ∧ Un w x (.returned (.agg #[.int .i64 x.f0, .int .i64 x.f1, .bool x.f2, v3, v4])) W3 := by
  have hres' : (W0.setCell ⟨w.heap.size + 1, 3, none⟩ u).heap[w.heap.size]? = some (.cells #[z0, z1, z2, z3, z4] 27 (0, 0)) := blk_far hres (p := ⟨w.heap.size + 1, 3, none⟩) (by show w.heap.size ≠ w.heap.size + 1; omega) _
  have h5 := blk_set (blk_set (blk_set (blk_set (blk_set hres' 0 (.int .i64 x.f0)) 1 (.int .i64 x.f1)) 2 (.bool x.f2)) 3 v3) 4 v4
  rw [← hW3] at h5
  refine ⟨h5, _, rfl, k27_mkM W3 w.heap.size _ x (v3 := v3) ?_ (v4 := v4) ?_, ?_⟩
  · rw [hW3]
    exact Kd.R_mono (Kd.R_far (Kd.R_far (Kd.R_far (Kd.R_far (Kd.R_far (Kd.R_far h3 (p := ⟨w.heap.size + 1, 3, none⟩) (fun k hk => hk.2) _) (p := ⟨w.heap.size, 0, none⟩) (fun k hk => hk.1) _) (p := ⟨w.heap.size, 1, none⟩) (fun k hk => hk.1) _) (p := ⟨w.heap.size, 2, none⟩) (fun k hk => hk.1) _) (p := ⟨w.heap.size, 3, none⟩) (fun k hk => hk.1) _) (p := ⟨w.heap.size, 4, none⟩) (fun k hk => hk.1) _) (fun _ _ => trivial)
  · rw [hW3]
    exact Kd.R_mono (Kd.R_far (Kd.R_far (Kd.R_far (Kd.R_far (Kd.R_far (Kd.R_far h4 (p := ⟨w.heap.size + 1, 3, none⟩) (fun k hk => hk.2) _) (p := ⟨w.heap.size, 0, none⟩) (fun k hk => hk.1) _) (p := ⟨w.heap.size, 1, none⟩) (fun k hk => hk.1) _) (p := ⟨w.heap.size, 2, none⟩) (fun k hk => hk.1) _) (p := ⟨w.heap.size, 3, none⟩) (fun k hk => hk.1) _) (p := ⟨w.heap.size, 4, none⟩) (fun k hk => hk.1) _) (fun _ _ => trivial)
  · rw [hW3]
    have hn : ∀ i, w.heap.size ≤ (⟨w.heap.size, i, none⟩ : Addr).block := fun i => Nat.le_refl _
    exact (((((hb.setCell (p := ⟨w.heap.size + 1, 3, none⟩) (Nat.le_succ _) _).setCell (p := ⟨w.heap.size, 0, none⟩) (hn 0) _).setCell (p := ⟨w.heap.size, 1, none⟩) (hn 1) _).setCell (p := ⟨w.heap.size, 2, none⟩) (hn 2) _).setCell (p := ⟨w.heap.size, 3, none⟩) (hn 3) _).setCell (p := ⟨w.heap.size, 4, none⟩) (hn 4) _

set_option maxHeartbeats 3200000 in
set_option maxRecDepth 100000 in
theorem unpk_prim (cls tag : Int) (val : Value) (bv data : List Int) (kids : List Pk) (desc : ByteArray) (h0 : 0 ≤ cls) (h1 : cls ≤ 255) (h2 : 0 ≤ tag) (h3 : tag < 268435456) (h4 : data.length < 1099511627776) (b base : Nat) (ok : Nat → Prop) (w : World) (hI : IsPk w base ok b ⟨cls, 0, tag, val, bv, data, kids, desc⟩) :
    Calls Tryd.prog 82 #[.pointer (some ⟨b, 0, none⟩)] w (Un w ⟨cls / 64, tag, false, data, []⟩) := by
    obtain ⟨db, v, bvv, cv, P⟩ := parts_of hI.bound
    obtain ⟨Z, hZ⟩ : ∃ Z : Obj, Z = (Obj.cells #[.int .i64 0, .int .i64 0, .bool false, .slice none 0 0, .slice none 0 0] 27) := ⟨_, rfl⟩
    have hb0 : Below w.heap.size w (w.alloc Z) := below_alloc (Below.refl _ _) _
    have P0 := P.below hb0
    have c0 : (w.alloc Z).cell? ⟨b, 0, none⟩ = some (.int .u8 cls) := P0.cell 0
    have c1 : (w.alloc Z).cell? ⟨b, 1, none⟩ = some (.int .u8 0) := P0.cell 1
    have c2 : (w.alloc Z).cell? ⟨b, 2, none⟩ = some (.int .u64 tag) := P0.cell 2
    have hb0' : Below w.heap.size w ((w.alloc Z).alloc Z) := below_alloc hb0 _
    have P0' := P.below hb0'
    have d0 : ((w.alloc Z).alloc Z).cell? ⟨b, 0, none⟩ = some (.int .u8 cls) := P0'.cell 0
    have d1 : ((w.alloc Z).alloc Z).cell? ⟨b, 1, none⟩ = some (.int .u8 0) := P0'.cell 1
    have d2 : ((w.alloc Z).alloc Z).cell? ⟨b, 2, none⟩ = some (.int .u64 tag) := P0'.cell 2
    have e1 : IntKind.i64.wrap cls = cls := by rw [IntKind.wrap_i64]; omega
    have e2 : IntKind.i64.wrap tag = tag := by rw [IntKind.wrap_i64]; omega
    have e3 : IntKind.i64.wrap (cls / 64) = cls / 64 := by rw [IntKind.wrap_i64]; omega
    have e4 : wrap64 cls = cls := by unfold wrap64; omega
    have e5 : wrap64 tag = tag := by unfold wrap64; omega
    have hW1 : ∀ W, W = ((w.alloc Z).alloc (.cells #[.int .i64 (cls / 64), .int .i64 tag, .bool false, .slice none 0 0, .slice none 0 0] 27)).drew → Below w.heap.size w W ∧ W.heap[w.heap.size]? = some (.cells #[.int .i64 0, .int .i64 0, .bool false, .slice none 0 0, .slice none 0 0] 27 (0, 0)) ∧
        W.heap[w.heap.size + 1]? = some (.cells #[.int .i64 (cls / 64), .int .i64 tag, .bool false, .slice none 0 0, .slice none 0 0] 27 (0, 0)) := by
      rintro W rfl
      refine ⟨(below_alloc hb0 _).drew, ?_, ?_⟩
      · show ((w.alloc Z).alloc _).heap[w.heap.size]? = _
        have := blk_alloc (blk_new w (.cells #[.int .i64 0, .int .i64 0, .bool false, .slice none 0 0, .slice none 0 0] 27)) (.cells #[.int .i64 (cls / 64), .int .i64 tag, .bool false, .slice none 0 0, .slice none 0 0] 27)
        rw [hZ]
        exact this
      · have := blk_new (w.alloc Z) (.cells #[.int .i64 (cls / 64), .int .i64 tag, .bool false, .slice none 0 0, .slice none 0 0] 27)
        have e : (w.alloc Z).heap.size = w.heap.size + 1 := by simp
        rw [e] at this
        exact this
    subst hZ
    have HP := Lib.hid P
    have HW1 := Lib.hid hW1
    clear P P0 P0' hI hb0 hb0' hW1
    go_enter Tryd.func82, Tryd.ntmps82
    go_wp2
    go_region
    clear c0 c1 c2 d0 d1 d2
    obtain ⟨W1, hW⟩ : ∃ W1, W1 = ((w.alloc (.cells #[.int .i64 0, .int .i64 0, .bool false, .slice none 0 0, .slice none 0 0] 27)).alloc (.cells #[.int .i64 (cls / 64), .int .i64 tag, .bool false, .slice none 0 0, .slice none 0 0] 27)).drew := ⟨_, rfl⟩
    obtain ⟨hB1, hr1, ho1⟩ := HW1.out W1 hW
    rw [← hW]
    clear hW
    have P1 := HP.out.below hB1
    have k2 : W1.cell? ⟨w.heap.size + 1, 2, none⟩ = some (.bool false) := blk_cell ho1 2
    have k5 : W1.cell? ⟨b, 5, none⟩ = some (.pointer (some ⟨db, 0, none⟩)) := P1.cell 5
    have HBY := Lib.hid (Tryd.Buffer_Bytes 0 db (nums .u8 data) W1 P1.buf.shelf)
    have HB1 := Lib.hid hB1
    have HR1 := Lib.hid hr1
    have HO1 := Lib.hid ho1
    clear P1 hB1 hr1 ho1 HW1
    go_wp2_with (first
      | (go_at_call 104
         with_reducible refine HBY.out.mono ?_
         rintro e W2 ⟨v2, rfl, hv2, n2, hW2⟩
         rw [nums_length] at hv2
         obtain ⟨A2, d2, rfl, hl2, hc2, _⟩ := own_row_parts hv2
         have hB2 : Below W1.heap.size W1 W2 := hW2 ▸ pw_below_drewN (Below.refl _ W1) n2
         have HC2 := Lib.hid (clone_any data A2 d2 W2 hc2 (by omega))
         have HR2 := Lib.hid (blk_below HR1.out hB2)
         have HO2 := Lib.hid (blk_below HO1.out hB2)
         have HB2 := Lib.hid (HB1.out.trans (hB2.mono HB1.out.size))
         clear hv2 hW2 hl2 hc2 hB2 HBY HR1 HO1 k2 k5 HB1)
      | (go_at_call 97
         with_reducible refine HC2.out.mono ?_
         rintro e W3 ⟨v3, rfl, hv3, hB3⟩
         obtain ⟨A3, d3, hv3e⟩ := Kd.R_slice hv3
         subst hv3e
         have hn2 : w.heap.size + 1 < W2.heap.size := blk_lt HO2.out
         have HR3 := Lib.hid (blk_below HR2.out hB3)
         have HO3 := Lib.hid (blk_below HO2.out hB3)
         have HB3 := Lib.hid (HB2.out.trans (hB3.mono HB2.out.size))
         have k0 : W3.cell? ⟨w.heap.size + 1, 0, none⟩ = some (.int .i64 (cls / 64)) := blk_cell HO3.out 0
         have k1 : W3.cell? ⟨w.heap.size + 1, 1, none⟩ = some (.int .i64 tag) := blk_cell HO3.out 1
         have k2 : W3.cell? ⟨w.heap.size + 1, 2, none⟩ = some (.bool false) := blk_cell HO3.out 2
         have k3 : W3.cell? ⟨w.heap.size + 1, 3, none⟩ = some (.slice none 0 0) := blk_cell HO3.out 3
         have k4 : W3.cell? ⟨w.heap.size + 1, 4, none⟩ = some (.slice none 0 0) := blk_cell HO3.out 4
         have kf3 := blk_frozen HO3.out 3
         have r0 : W3.cell? ⟨w.heap.size, 0, none⟩ = some (.int .i64 0) := blk_cell HR3.out 0
         have r1 : W3.cell? ⟨w.heap.size, 1, none⟩ = some (.int .i64 0) := blk_cell HR3.out 1
         have r2 : W3.cell? ⟨w.heap.size, 2, none⟩ = some (.bool false) := blk_cell HR3.out 2
         have r3 : W3.cell? ⟨w.heap.size, 3, none⟩ = some (.slice none 0 0) := blk_cell HR3.out 3
         have r4 : W3.cell? ⟨w.heap.size, 4, none⟩ = some (.slice none 0 0) := blk_cell HR3.out 4
         have rf0 := blk_frozen HR3.out 0
         have rf1 := blk_frozen HR3.out 1
         have rf2 := blk_frozen HR3.out 2
         have rf3 := blk_frozen HR3.out 3
         have rf4 := blk_frozen HR3.out 4
         have HV3 : Hid (B8.R 5 W3 w.heap.size (fun k => k ≠ w.heap.size ∧ k ≠ w.heap.size + 1) (.slice A3 data.length d3) data) := Lib.hid (Kd.R_lower (Kd.R_mono (Kd.R_bound hv3) (fun k hk => by have := hk.2.1; omega)) (by omega))
         clear hv3 hB3 HR2 HO2 HC2))
    try simp only [Exit.inBlock, Exit.then]
    obtain ⟨h5, hend⟩ := unpk_end (x := ⟨cls / 64, tag, false, data, []⟩) (v3 := .slice A3 data.length d3) (v4 := .slice none 0 0) HB3.out HR3.out HV3.out (Kd.R_nil _ _ _ _ _) rfl
    exact bodyPost_ret (results_u rfl _ _ _ _ _ _ _ rfl h5 Tryd.underlying27 rfl size_ip) rfl hend
end Go.Proofs.YtbmcpjkhnhbjdaaDoor.Ber

namespace Go.Proofs.YtbmcpjkhnhbjdaaDoor.Ber
open Go.RowKit Go.Proofs.YtbmcpjkhnhbjdaaDoorW.PrintWords Go.Proofs.YtbmcpjkhnhbjdaaDoor.Buf Go.Proofs.YtbmcpjkhnhbjdaaDoor.Pk Go.Proofs.YtbmcpjkhnhbjdaaDoor.Num Go.Proofs.YtbmcpjkhnhbjdaaDoor.Ident Go.Proofs.YtbmcpjkhnhbjdaaDoor.Tree Go.Proofs.YtbmcpjkhnhbjdaaDoor.PFnEncode
set_option linter.unusedVariables false
set_option linter.unusedSimpArgs false

/-- what stands at the loop's head -/
structure UInv (w W : World) (a b : Int) (v : Value) (acc : List S27) : Prop where
  bel : Below w.heap.size w W
  res : W.heap[w.heap.size]? = some (.cells #[.int .i64 0, .int .i64 0, .bool false, .slice none 0 0, .slice none 0 0] 27 (0, 0))
  out : W.heap[w.heap.size + 1]? = some (.cells #[.int .i64 a, .int .i64 b, .bool true, .slice none 0 0, v] 27 (0, 0))
  row : k27.R 27 W w.heap.size (fun k => k ≠ w.heap.size ∧ k ≠ w.heap.size + 1) v acc

section
variable {w W W' : World} {a b : Int} {v : Value} {acc : List S27}
theorem UInv.step (I : UInv w W a b v acc) (hb : Below W.heap.size W W') : UInv w W' a b v acc :=
  ⟨I.bel.trans (hb.mono I.bel.size), blk_below I.res hb, blk_below I.out hb, Kd.R_below I.row hb⟩
theorem UInv.read (I : UInv w W a b v acc) {x : S27} {e : Ending} (h : Un W x e W') :
    ∃ c, e = .returned (.agg c.toArray) ∧ UInv w W' a b v acc ∧ k27.M W' w.heap.size (fun k => W.heap.size ≤ k) x c := by
  obtain ⟨c, he, hM, hb⟩ := h
  exact ⟨c, he, I.step hb, k27.M_lower I.bel.size (k27.M_mono (fun k hk => hk.2.1) (k27.M_bound hM))⟩
theorem UInv.vlt (I : UInv w W a b v acc) : ∀ k, v.ownBlock = some k → k < W.heap.size := fun k hk => own_lt I.row.2.choose_spec.1 k hk
theorem UInv.okp (I : UInv w W a b v acc) : ∀ k, W.heap.size ≤ k → (k ≠ w.heap.size ∧ k ≠ w.heap.size + 1) ∧ some k ≠ v.ownBlock := fun k hk => by
  have hl1 := blk_lt I.res
  have hl2 := blk_lt I.out
  refine ⟨⟨by omega, by omega⟩, fun e => ?_⟩
  have := I.vlt k e.symm
  omega
theorem UInv.fresh (I : UInv w W a b v acc) : ∀ k, W.heap.size ≤ k → k ≠ w.heap.size ∧ k ≠ w.heap.size + 1 := fun k hk => by
  have hl1 := blk_lt I.res
  have hl2 := blk_lt I.out
  exact ⟨by omega, by omega⟩
theorem UInv.ne (I : UInv w W a b v acc) : some (w.heap.size + 1) ≠ v.ownBlock := fun e => (I.row.1 _ e.symm).2 rfl
theorem UInv.app (I : UInv w W a b v acc) {x : S27} {v1 : Value} (hg : W.grownBy W' v.ownBlock) (hat : v1.ownBlock = v.ownBlock ∨ ∃ b, v1.ownBlock = some b ∧ W.heap.size ≤ b) (hR : k27.R 27 W' w.heap.size (fun k => k ≠ w.heap.size ∧ k ≠ w.heap.size + 1) v1 (acc ++ [x])) :
    UInv w (W'.setCell ⟨w.heap.size + 1, 4, none⟩ v1) a b v1 (acc ++ [x]) := by
  have hb : ∀ k, v.ownBlock = some k → w.heap.size ≤ k ∧ k ≠ w.heap.size ∧ k ≠ w.heap.size + 1 := fun k hk => ⟨own_base I.row.2.choose_spec.1 k hk, I.row.1 k hk⟩
  have hne : ∀ i, i < w.heap.size ∨ i = w.heap.size ∨ i = w.heap.size + 1 → some i ≠ v.ownBlock := fun i hi e => by
    have := hb i e.symm
    omega
  refine ⟨?_, blk_far (blk_grown I.res hg (hne _ (.inr (.inl rfl)))) (by show w.heap.size ≠ w.heap.size + 1; omega) _, ?_, Kd.R_far hR (fun k hk => hk.2) _⟩
  · refine Below.setCell ?_ (p := ⟨w.heap.size + 1, 4, none⟩) (Nat.le_succ _) _
    exact ⟨hg.os.trans I.bel.os, hg.tape.trans I.bel.tape, hg.output.trans I.bel.output, Nat.le_trans I.bel.size hg.size, fun i hi => (hg.block i (by have := I.bel.size; omega) (hne i (.inl hi))).trans (I.bel.block i hi)⟩
  · exact blk_set (blk_grown I.out hg (hne _ (.inr (.inr rfl)))) 4 v1
end

/-- the end of the loop -/
theorem unpk_end2 {w W0 W3 : World} {a b : Int} {v4 : Value} {acc : List S27} (I : UInv w W0 a b v4 acc)
    (hW3 : W3 = (((((W0.setCell ⟨w.heap.size, 0, none⟩ (.int .i64 a)).setCell ⟨w.heap.size, 1, none⟩ (.int .i64 b)).setCell ⟨w.heap.size, 2, none⟩ (.bool true)).setCell ⟨w.heap.size, 3, none⟩ (.slice none 0 0)).setCell ⟨w.heap.size, 4, none⟩ v4)) :
    W3.heap[w.heap.size]? = some (.cells #[.int .i64 a, .int .i64 b, .bool true, .slice none 0 0, v4] 27 (0, 0)) ∧ Un w ⟨a, b, true, [], acc⟩ (.returned (.agg #[.int .i64 a, .int .i64 b, .bool true, .slice none 0 0, v4])) W3 := by
  have h5 := blk_set (blk_set (blk_set (blk_set (blk_set I.res 0 (.int .i64 a)) 1 (.int .i64 b)) 2 (.bool true)) 3 (.slice none 0 0)) 4 v4
  rw [← hW3] at h5
  refine ⟨h5, _, rfl, k27_mkM W3 w.heap.size _ ⟨a, b, true, [], acc⟩ (v3 := .slice none 0 0) (Kd.R_nil _ _ _ _ _) (v4 := v4) ?_, ?_⟩
  · rw [hW3]
    exact Kd.R_mono (Kd.R_far (Kd.R_far (Kd.R_far (Kd.R_far (Kd.R_far I.row (p := ⟨w.heap.size, 0, none⟩) (fun k hk => hk.1) _) (p := ⟨w.heap.size, 1, none⟩) (fun k hk => hk.1) _) (p := ⟨w.heap.size, 2, none⟩) (fun k hk => hk.1) _) (p := ⟨w.heap.size, 3, none⟩) (fun k hk => hk.1) _) (p := ⟨w.heap.size, 4, none⟩) (fun k hk => hk.1) _) (fun _ _ => trivial)
  · rw [hW3]
    have hn : ∀ i, w.heap.size ≤ (⟨w.heap.size, i, none⟩ : Addr).block := fun i => Nat.le_refl _
    exact ((((I.bel.setCell (p := ⟨w.heap.size, 0, none⟩) (hn 0) _).setCell (p := ⟨w.heap.size, 1, none⟩) (hn 1) _).setCell (p := ⟨w.heap.size, 2, none⟩) (hn 2) _).setCell (p := ⟨w.heap.size, 3, none⟩) (hn 3) _).setCell (p := ⟨w.heap.size, 4, none⟩) (hn 4) _

theorem trL_step {l : List Pk} {k : Nat} (hk : k < l.length) : trL (l.take (k + 1)) = trL (l.take k) ++ [trOf l[k]] := by
  rw [List.take_succ_eq_append_getElem hk, trL_append]
  rfl

set_option maxHeartbeats 6400000 in
set_option maxRecDepth 100000 in
theorem unpk_any : ∀ (n : Nat) (x : Pk), dp x ≤ n → okP x → ∀ (b base : Nat) (ok : Nat → Prop) (w : World), IsPk w base ok b x → Calls Tryd.prog 82 #[.pointer (some ⟨b, 0, none⟩)] w (Un w (trOf x)) := by
  intro n
  induction n with
  | zero =>
    rintro ⟨cls, typ, tag, val, bv, data, kids, desc⟩ hd
    rw [dp] at hd
    omega
  | succ n ih =>
    rintro ⟨cls, typ, tag, val, bv, data, kids, desc⟩ hd hok b base ok w hI
    rw [dp] at hd
    rw [okP] at hok
    obtain ⟨⟨h0, h1⟩, ht, ⟨h2, h3⟩, h4, h5, h6⟩ := hok
    rcases ht with rfl | rfl
    · exact unpk_prim cls tag val bv data kids desc h0 h1 h2 h3 h4 b base ok w hI
    rw [trOf, if_pos rfl, if_pos rfl, decide_eq_true rfl]
    obtain ⟨db, v, bvv, cv, P⟩ := parts_of hI.bound
    obtain ⟨Z, hZ⟩ : ∃ Z : Obj, Z = (Obj.cells #[.int .i64 0, .int .i64 0, .bool false, .slice none 0 0, .slice none 0 0] 27) := ⟨_, rfl⟩
    have hb0 : Below w.heap.size w (w.alloc Z) := below_alloc (Below.refl _ _) _
    have P0 := P.below hb0
    have c0 : (w.alloc Z).cell? ⟨b, 0, none⟩ = some (.int .u8 cls) := P0.cell 0
    have c1 : (w.alloc Z).cell? ⟨b, 1, none⟩ = some (.int .u8 32) := P0.cell 1
    have c2 : (w.alloc Z).cell? ⟨b, 2, none⟩ = some (.int .u64 tag) := P0.cell 2
    have hb0' : Below w.heap.size w ((w.alloc Z).alloc Z) := below_alloc hb0 _
    have P0' := P.below hb0'
    have d0 : ((w.alloc Z).alloc Z).cell? ⟨b, 0, none⟩ = some (.int .u8 cls) := P0'.cell 0
    have d1 : ((w.alloc Z).alloc Z).cell? ⟨b, 1, none⟩ = some (.int .u8 32) := P0'.cell 1
    have d2 : ((w.alloc Z).alloc Z).cell? ⟨b, 2, none⟩ = some (.int .u64 tag) := P0'.cell 2
    have e1 : IntKind.i64.wrap cls = cls := by rw [IntKind.wrap_i64]; omega
    have e2 : IntKind.i64.wrap tag = tag := by rw [IntKind.wrap_i64]; omega
    have e3 : IntKind.i64.wrap (cls / 64) = cls / 64 := by rw [IntKind.wrap_i64]; omega
    have e4 : wrap64 cls = cls := by unfold wrap64; omega
    have e5 : wrap64 tag = tag := by unfold wrap64; omega
    have hW1 : ∀ W, W = ((w.alloc Z).alloc (.cells #[.int .i64 (cls / 64), .int .i64 tag, .bool true, .slice none 0 0, .slice none 0 0] 27)).drew → UInv w W (cls / 64) tag (.slice none 0 0) [] := by
      rintro W rfl
      refine ⟨(below_alloc hb0 _).drew, ?_, ?_, Kd.R_nil _ _ _ _ _⟩
      · show ((w.alloc Z).alloc _).heap[w.heap.size]? = _
        have := blk_alloc (blk_new w (.cells #[.int .i64 0, .int .i64 0, .bool false, .slice none 0 0, .slice none 0 0] 27)) (.cells #[.int .i64 (cls / 64), .int .i64 tag, .bool true, .slice none 0 0, .slice none 0 0] 27)
        rw [hZ]
        exact this
      · have := blk_new (w.alloc Z) (.cells #[.int .i64 (cls / 64), .int .i64 tag, .bool true, .slice none 0 0, .slice none 0 0] 27)
        have e : (w.alloc Z).heap.size = w.heap.size + 1 := by simp
        rw [e] at this
        exact this
    subst hZ
    obtain ⟨Ac, cc, hcv⟩ := Kd.R_slice P.rk
    subst hcv
    have HP := Lib.hid P
    have HW1 := Lib.hid hW1
    have H6 := Lib.hid h6
    have HIH := Lib.hid ih
    have HD : Hid (dpL kids ≤ n) := Lib.hid (by omega)
    clear P P0 P0' hI hb0 hb0' hW1 h6 ih hd
    go_enter Tryd.func82, Tryd.ntmps82
    go_wp2
    go_region
    clear c0 c1 c2 d0 d1 d2
    obtain ⟨W1, hW⟩ : ∃ W1, W1 = ((w.alloc (.cells #[.int .i64 0, .int .i64 0, .bool false, .slice none 0 0, .slice none 0 0] 27)).alloc (.cells #[.int .i64 (cls / 64), .int .i64 tag, .bool true, .slice none 0 0, .slice none 0 0] 27)).drew := ⟨_, rfl⟩
    have HI := Lib.hid (HW1.out W1 hW)
    rw [← hW]
    clear hW HW1
    have k2 : W1.cell? ⟨w.heap.size + 1, 2, none⟩ = some (.bool true) := blk_cell HI.out.out 2
    have k6 : W1.cell? ⟨b, 6, none⟩ = some (.slice Ac kids.length cc) := (HP.out.below HI.out.bel).cell 6
    clear e1 e2 e3 e4 e5
    go_wp2
    clear k2 k6
    go_loopw [42] (fun i wr => ∃ k : Nat, k ≤ kids.length ∧ i = .int .i64 k ∧ Hid (∃ v, UInv w wr (cls / 64) tag v (trL (kids.take k)))) (fun i _ => kids.length - (intOf i).toNat)
    case atStart => exact ⟨0, Nat.zero_le _, rfl, Lib.hid ⟨_, HI.out⟩⟩
    case round =>
      obtain ⟨k, hk, rfl, HV0⟩ := hrel
      obtain ⟨v, HV1⟩ := HV0.out
      have HV := Lib.hid HV1
      clear HV0 HV1
      clear HI
      by_cases hlt : k < kids.length
      · have PW := HP.out.below HV.out.bel
        obtain ⟨ad, cap, q, hsl, hcell, hkid⟩ := kid_at PW.rk hlt
        injection hsl with ha _ hcap
        subst ha
        subst hcap
        have HKID := Lib.hid (HIH.out kids[k] (Nat.le_trans (dpL_mem (List.getElem_mem hlt)) HD.out) (okL_mem H6.out (List.getElem_mem hlt)) q _ _ wr.drew (hkid.below ((Below.refl _ wr).drew)))
        have HST := Lib.hid (trL_step hlt)
        obtain ⟨kid, hkd⟩ : ∃ kid, kid = trOf kids[k] := ⟨_, rfl⟩
        rw [← hkd] at HKID HST
        have HLE : Hid ((trL (kids.take k)).length ≤ 1099511627776) := Lib.hid (by rw [trL_length, List.length_take]; omega)
        obtain ⟨acc, hacc⟩ : ∃ acc, acc = trL (kids.take k) := ⟨_, rfl⟩
        rw [← hacc] at HST HV HLE
        clear hkd hacc hkid PW
        go_wp2_with fail
        have HI2 := Lib.hid (HV.out.step (W' := wr.drew) ((Below.refl _ wr).drew))
        have s0 : wr.cell? ⟨w.heap.size + 1, 4, none⟩ = some v := blk_cell HV.out.out 4
        clear hcell
        go_region_law (first
          | ((refine Kd.R_append_step k27 (w0 := W4) (W := W4) w.heap.size (by rfl) (.tmp 47) (.tmp 50) 25 27 (.agg #[.int .i64 0, .int .i64 0, .bool false, .slice none 0 0, .slice none 0 0]) 72 (by rfl) Tryd.underlying25 info_ip rfl (show 0 < 5 by decide) (by decide) v acc kid _ (fun k => k ≠ w.heap.size ∧ k ≠ w.heap.size + 1) _ (by rfl) (by rfl) HM4.out HI2.out.okp HI4.out.fresh HI4.out.row (Below.refl _ _) HI4.out.bel.size (by have := HLE.out; omega) ?_
              intro v1 w1 hR1 hb1 hg1 hat1
              have hne := HI4.out.ne
              have x0 : w1.cell? ⟨w.heap.size + 1, 4, none⟩ = some v := blk_cell (blk_grown HI4.out.out hg1 hne) 4
              have xf : w1.frozen? ⟨w.heap.size + 1, 4, none⟩ = false := blk_frozen (blk_grown HI4.out.out hg1 hne) 4
              obtain ⟨Aq, cq, hvq, _, _⟩ := Kd.R_reads hR1
              subst hvq
              have h6 := HI4.out.app hg1 hat1 hR1
              simp only [List.length_append, List.length_singleton] at h6
              have HI6 := Lib.hid h6
              clear h6 hR1 hb1 hg1 hat1 hne))
          | (go_wp2_with (go_at_call 82
                          with_reducible refine HKID.out.mono ?_
                          rintro e W4 hR4
                          obtain ⟨c4, rfl, hI4, hM4⟩ := HI2.out.read hR4
                          obtain ⟨v5, v6, rfl, r5, r6⟩ := k27_openM hM4
                          have t0 : W4.cell? ⟨w.heap.size + 1, 4, none⟩ = some v := blk_cell hI4.out 4
                          have u0 : ∀ o, (W4.alloc o).cell? ⟨w.heap.size + 1, 4, none⟩ = some v := fun o => blk_cell (blk_alloc hI4.out o) 4
                          have HI4 := Lib.hid hI4
                          have HM4 := Lib.hid hM4
                          clear hI4 hM4 hR4 r5 r6)))
        all_goals (
          go_wp2
          go_roundw
          case rel =>
            refine ⟨k + 1, by omega, by go_num, Lib.hid ⟨_, by rw [HST.out]; exact HI6.out⟩⟩
          case measure => simp [intOf]; omega)
      · obtain rfl : k = kids.length := by omega
        obtain ⟨Av, cv, rfl, hav, hcv⟩ := Kd.R_reads HV.out.row
        clear hav hcv
        have hfin : trL (kids.take kids.length) = trL kids := by rw [List.take_length]
        rw [hfin] at HV
        have hlen : (trL (kids.take kids.length)).length = (trL kids).length := by rw [hfin]
        have o0 : wr.cell? ⟨w.heap.size + 1, 0, none⟩ = some (.int .i64 (cls / 64)) := blk_cell HV.out.out 0
        have o1 : wr.cell? ⟨w.heap.size + 1, 1, none⟩ = some (.int .i64 tag) := blk_cell HV.out.out 1
        have o2 : wr.cell? ⟨w.heap.size + 1, 2, none⟩ = some (.bool true) := blk_cell HV.out.out 2
        have o3 : wr.cell? ⟨w.heap.size + 1, 3, none⟩ = some (.slice none 0 0) := blk_cell HV.out.out 3
        have o4 : wr.cell? ⟨w.heap.size + 1, 4, none⟩ = some (.slice Av (trL kids).length cv) := by
          exact blk_cell HV.out.out 4
        have kf0 : wr.frozen? ⟨w.heap.size, 0, none⟩ = false := blk_frozen HV.out.res 0
        have kf1 : wr.frozen? ⟨w.heap.size, 1, none⟩ = false := blk_frozen HV.out.res 1
        have kf2 : wr.frozen? ⟨w.heap.size, 2, none⟩ = false := blk_frozen HV.out.res 2
        have kf3 : wr.frozen? ⟨w.heap.size, 3, none⟩ = false := blk_frozen HV.out.res 3
        have kf4 : wr.frozen? ⟨w.heap.size, 4, none⟩ = false := blk_frozen HV.out.res 4
        have k0 : wr.cell? ⟨w.heap.size, 0, none⟩ = some (.int .i64 0) := blk_cell HV.out.res 0
        have k1 : wr.cell? ⟨w.heap.size, 1, none⟩ = some (.int .i64 0) := blk_cell HV.out.res 1
        have k2 : wr.cell? ⟨w.heap.size, 2, none⟩ = some (.bool false) := blk_cell HV.out.res 2
        have k3 : wr.cell? ⟨w.heap.size, 3, none⟩ = some (.slice none 0 0) := blk_cell HV.out.res 3
        have k4 : wr.cell? ⟨w.heap.size, 4, none⟩ = some (.slice none 0 0) := blk_cell HV.out.res 4
        go_wp2
        try simp only [Exit.inBlock, Exit.then]
        obtain ⟨h5, hend⟩ := unpk_end2 HV.out rfl
        exact bodyPost_ret (results_u rfl _ _ _ _ _ _ _ rfl h5 Tryd.underlying27 rfl size_ip) rfl hend
end Go.Proofs.YtbmcpjkhnhbjdaaDoor.Ber
namespace Go.Proofs.YtbmcpjkhnhbjdaaDoor.Ber
open Go.RowKit Go.Proofs.YtbmcpjkhnhbjdaaDoorW.PrintWords Go.Proofs.YtbmcpjkhnhbjdaaDoor.Buf Go.Proofs.YtbmcpjkhnhbjdaaDoor.Pk
set_option linter.unusedVariables false
set_option linter.unusedSimpArgs false

theorem catch_idle (p : Addr) (w : World) :
    CallsD Tryd.prog 92 #[.pointer (some p)] .returning w fun e u' w' => e = .returned (.tuple #[]) ∧ u' = .returning ∧ w' = w := by
  refine callsD_of_wpS Tryd.func92 rfl fun c₀ cs hu => ?_
  apply wpS_seq
  apply wpS_region
  simp [wpOpsS, go_sem, recoverD, hu, Tryd.ntmps92, Exit.thenS]
  refine wpS_cond (t := false) (by simp [Act.eval, Array.replicate]) ?_
  simp only [Bool.false_eq_true, if_false]
  refine wpS_of_wp (wp_skip ?_)
  cases c₀
  simp_all [bodyPostS, results, Tryd.results92]

end Go.Proofs.YtbmcpjkhnhbjdaaDoor.Ber

namespace Go.Proofs.YtbmcpjkhnhbjdaaDoor.Ber
open Go.RowKit Go.Proofs.YtbmcpjkhnhbjdaaDoorW.PrintWords Go.Proofs.YtbmcpjkhnhbjdaaDoor.Buf Go.Proofs.YtbmcpjkhnhbjdaaDoor.Pk Go.Proofs.YtbmcpjkhnhbjdaaDoor.Num
set_option linter.unusedVariables false
set_option linter.unusedSimpArgs false

/-- the envelope before the request -/
def env0 (n : Int) : Pk := addK (bare 0 32 16 .nilIface ⟨#[76, 68, 65, 80, 32, 82, 101, 113, 117, 101, 115, 116]⟩) (prim 0 0 2 (.iface 2 (.int .i64 n)) (whole n) ⟨#[77, 101, 115, 115, 97, 103, 101, 73, 68]⟩)

theorem env0_top (n : Int) (h : -9223372036854775808 ≤ n ∧ n ≤ 9223372036854775807) : Top (env0 n) 30 := by
  have s1 : Top (bare 0 32 16 .nilIface ⟨#[76, 68, 65, 80, 32, 82, 101, 113, 117, 101, 115, 116]⟩) 0 := bare_top _ _ _ _ _ (by decide) (by decide) (by decide) (Or.inr rfl) (by decide) (by decide)
  have s2 : Top (prim 0 0 2 (.iface 2 (.int .i64 n)) (whole n) ⟨#[77, 101, 115, 115, 97, 103, 101, 73, 68]⟩) 8 := prim_top _ _ _ _ _ _ (by decide) (by decide) (by decide) (Or.inl rfl) (by decide) (by decide) (by have := wl_le8 n h; rw [whole, be_length]; exact this)
  exact (addK_top s1 s2 (by decide)).le (by decide)

end Go.Proofs.YtbmcpjkhnhbjdaaDoor.Ber

namespace Go.Proofs.YtbmcpjkhnhbjdaaDoor.Ber
open Go.RowKit Go.Proofs.YtbmcpjkhnhbjdaaDoorW.PrintWords Go.Proofs.YtbmcpjkhnhbjdaaDoor.Buf Go.Proofs.YtbmcpjkhnhbjdaaDoor.Pk Go.Proofs.YtbmcpjkhnhbjdaaDoor.Num Go.Proofs.YtbmcpjkhnhbjdaaDoor.PFnEncode
set_option linter.unusedVariables false
set_option linter.unusedSimpArgs false

/-- the five cells were stored -/
theorem store5 {W W3 : World} {g : Nat} {z0 z1 z2 z3 z4 v0 v1 v2 v3 v4 : Value} (h : W.heap[g]? = some (.cells #[z0, z1, z2, z3, z4] 27 (0, 0)))
    (hW3 : W3 = (((((W.setCell ⟨g, 0, none⟩ v0).setCell ⟨g, 1, none⟩ v1).setCell ⟨g, 2, none⟩ v2).setCell ⟨g, 3, none⟩ v3).setCell ⟨g, 4, none⟩ v4)) :
    W3.heap[g]? = some (.cells #[v0, v1, v2, v3, v4] 27 (0, 0)) ∧ Only (fun i => i = g) W W3 := by
  subst hW3
  exact ⟨blk_set (blk_set (blk_set (blk_set (blk_set h 0 v0) 1 v1) 2 v2) 3 v3) 4 v4,
    (((((Only.refl (fun i => i = g) W).setCell (a := ⟨g, 0, none⟩) (fun _ => rfl) _).setCell (a := ⟨g, 1, none⟩) (fun _ => rfl) _).setCell (a := ⟨g, 2, none⟩) (fun _ => rfl) _).setCell (a := ⟨g, 3, none⟩) (fun _ => rfl) _).setCell (a := ⟨g, 4, none⟩) (fun _ => rfl) _⟩

end Go.Proofs.YtbmcpjkhnhbjdaaDoor.Ber

namespace Go.Proofs.YtbmcpjkhnhbjdaaDoor.Ber
open Go.RowKit Go.Proofs.YtbmcpjkhnhbjdaaDoorW.PrintWords Go.Proofs.YtbmcpjkhnhbjdaaDoor.Buf Go.Proofs.YtbmcpjkhnhbjdaaDoor.Pk Go.Proofs.YtbmcpjkhnhbjdaaDoor.Num Go.Proofs.YtbmcpjkhnhbjdaaDoor.PFnEncode
set_option linter.unusedVariables false
set_option linter.unusedSimpArgs false

/-- What a request's function of impl leaves: the packet as data, and true. -/
def OpRes (w : World) (y : S27) (e : Ending) (w' : World) : Prop :=
  ∃ A3 c3 A4 c4, e = .returned (.tuple #[.agg #[.int .i64 y.f0, .int .i64 y.f1, .bool y.f2, .slice A3 y.f3.length c3, .slice A4 y.f4.length c4], .bool true]) ∧ y.f3.length ≤ c3 ∧ Kd.F (Kd.int .u8) w' (fun k => w.heap.size ≤ k) A3 y.f3.length y.f3 ∧ y.f4.length ≤ c4 ∧ Kd.F k27 w' (fun k => w.heap.size ≤ k) A4 y.f4.length y.f4 ∧ Below w.heap.size w w'

/-- the end: the result's cells hold what they held -/
theorem op_end {w W W3 : World} {g B : Nat} {y : S27} {A3 A4 : Option Addr} {c3 c4 : Nat} {ok3 ok4 : Nat → Prop} {z0 z1 z2 z3 z4 : Value} (hb : Below w.heap.size w W) (hg : w.heap.size ≤ g) (hgB : g < B)
    (h : W.heap[g]? = some (.cells #[z0, z1, z2, z3, z4] 27 (0, 0)))
    (r3 : B8.R 5 W B ok3 (.slice A3 y.f3.length c3) y.f3) (r4 : k27.R 27 W B ok4 (.slice A4 y.f4.length c4) y.f4)
    (hW3 : W3 = (((((W.setCell ⟨g, 0, none⟩ (.int .i64 y.f0)).setCell ⟨g, 1, none⟩ (.int .i64 y.f1)).setCell ⟨g, 2, none⟩ (.bool y.f2)).setCell ⟨g, 3, none⟩ (.slice A3 y.f3.length c3)).setCell ⟨g, 4, none⟩ (.slice A4 y.f4.length c4))) :
    W3.heap[g]? = some (.cells #[.int .i64 y.f0, .int .i64 y.f1, .bool y.f2, .slice A3 y.f3.length c3, .slice A4 y.f4.length c4] 27 (0, 0)) ∧ OpRes w y (.returned (.tuple #[.agg #[.int .i64 y.f0, .int .i64 y.f1, .bool y.f2, .slice A3 y.f3.length c3, .slice A4 y.f4.length c4], .bool true])) W3 := by
  obtain ⟨h5, ho⟩ := store5 h hW3
  have q3 := Kd.R_move (Kd.R_bound r3) (fun k hk => ho.block k hk.2.2.1 (by have := hk.2.1; show ¬ k = g; omega))
  have q4 := Kd.R_move (Kd.R_bound r4) (fun k hk => ho.block k hk.2.2.1 (by have := hk.2.1; show ¬ k = g; omega))
  exact ⟨h5, A3, c3, A4, c4, rfl, (Kd.R_reads' q3).2.1, Kd.F_mono (Kd.R_F (Kd.R_bound q3)) (fun k hk => by have := hk.2.1; omega), (Kd.R_reads' q4).2.1, Kd.F_mono (Kd.R_F (Kd.R_bound q4)) (fun k hk => by have := hk.2.1; omega), hb.trans (ho.below hb.size (fun i hi => by omega))⟩

theorem okP_top {y : Pk} {n : Nat} (h : Top y n) (hn : n < 1099511627776) (hk : okL y.kids) : okP y := by
  obtain ⟨cls, typ, tag, val, bv, data, kids, desc⟩ := y
  obtain ⟨c0, c1, cm, ty, t0, t1, ln, nk⟩ := h
  simp only at c0 c1 cm ty t0 t1 ln nk hk
  rw [okP]
  exact ⟨⟨c0, by omega⟩, ty, ⟨t0, t1⟩, by omega, by omega, hk⟩
theorem okL_nil : okL [] := by rw [okL]; trivial
theorem okL_snoc {l : List Pk} {y : Pk} (h : okL l) (hy : okP y) : okL (l ++ [y]) := by
  induction l with
  | nil => rw [List.nil_append, okL]; exact ⟨hy, okL_nil⟩
  | cons x xs ih => rw [okL] at h; rw [List.cons_append, okL]; exact ⟨h.1, ih h.2⟩

/-- a packet that can be a child, and so can all in it -/
def Fine (y : Pk) (n : Nat) : Prop := Top y n ∧ okL y.kids
theorem Fine.ok {y : Pk} {n : Nat} (h : Fine y n) (hn : n < 1099511627776) : okP y := okP_top h.1 hn h.2
theorem Fine.le {y : Pk} {n m : Nat} (h : Fine y n) (hm : n ≤ m) : Fine y m := ⟨h.1.le hm, h.2⟩
theorem fine_add {x y : Pk} {n m : Nat} (hx : Fine x n) (hy : Fine y m) (hm : m < 1000000000000) : Fine (addK x y) (n + 14 + m) := ⟨addK_top hx.1 hy.1 hm, okL_snoc hx.2 (hy.ok (by omega))⟩
theorem fine_bare (cls typ tag : Int) (val : Value) (desc : ByteArray) (h0 : 0 ≤ cls) (h1 : cls ≤ 192) (h2 : cls % 64 = 0) (h3 : typ = 0 ∨ typ = 32) (h4 : 0 ≤ tag) (h5 : tag < 268435456) : Fine (bare cls typ tag val desc) 0 := ⟨bare_top cls typ tag val desc h0 h1 h2 h3 h4 h5, okL_nil⟩
theorem fine_str (cls typ tag : Int) (s desc : ByteArray) (h0 : 0 ≤ cls) (h1 : cls ≤ 192) (h2 : cls % 64 = 0) (h3 : typ = 0 ∨ typ = 32) (h4 : 0 ≤ tag) (h5 : tag < 268435456) {n : Nat} (hn : s.size ≤ n) : Fine (prim cls typ tag (strV s) (bytesOf s) desc) n := ⟨prim_top cls typ tag _ _ desc h0 h1 h2 h3 h4 h5 (by rw [bytesOf_length]; exact hn), okL_nil⟩

end Go.Proofs.YtbmcpjkhnhbjdaaDoor.Ber
namespace Go.Proofs.YtbmcpjkhnhbjdaaDoor.Within
open Go.RowKit Go.Proofs.YtbmcpjkhnhbjdaaDoorW.PrintWords Go.Proofs.YtbmcpjkhnhbjdaaDoor.PFnEncode Go.Proofs.YtbmcpjkhnhbjdaaDoor.Tree Go.Proofs.YtbmcpjkhnhbjdaaDoor.Buf
set_option linter.unusedVariables false
set_option linter.unusedSimpArgs false

mutual
/-- how deep -/
def tdp : S33 → Nat
  | ⟨_, _, _, _, l⟩ => tdpL l + 1
def tdpL : List S33 → Nat
  | [] => 0
  | x :: xs => max (tdp x) (tdpL xs)
end
theorem tdpL_mem : ∀ {l : List S33} {x : S33}, x ∈ l → tdp x ≤ tdpL l
  | y :: ys, x, hx => by
    rw [tdpL]
    rcases List.mem_cons.1 hx with rfl | hx
    · exact Nat.le_max_left _ _
    · exact Nat.le_trans (tdpL_mem hx) (Nat.le_max_right _ _)

end Go.Proofs.YtbmcpjkhnhbjdaaDoor.Within

namespace Go.Proofs.YtbmcpjkhnhbjdaaDoor.Within
open Go.RowKit Go.Proofs.YtbmcpjkhnhbjdaaDoorW.PrintWords Go.Proofs.YtbmcpjkhnhbjdaaDoor.PFnEncode Go.Proofs.YtbmcpjkhnhbjdaaDoor.Tree Go.Proofs.YtbmcpjkhnhbjdaaDoor.Buf Go.Proofs.YtbmcpjkhnhbjdaaDoor.Num
set_option linter.unusedVariables false
set_option linter.unusedSimpArgs false

/-- a packet within the depth and the room is read as it is -/
theorem wi_all : ∀ (d : Nat) (p : S27) (r : Int), tdp (mir p) ≤ d → (tsize (mir p) : Int) ≤ r → wi d p r = (mir p, r - tsize (mir p)) := by
  intro d
  induction d with
  | zero =>
    rintro ⟨a, b, c, dd, l⟩ r hd
    rw [mir, tdp] at hd
    omega
  | succ d ih =>
    have hL : ∀ (p : S27) (ks done : List S27) (r : Int), p.f4 = done ++ ks → tdpL (mirL ks) ≤ d → (tsizeL (mirL ks) : Int) ≤ r → wiL d p ks (mirL done) r = (⟨p.f0, p.f1, p.f2, p.f3, mirL p.f4⟩, r - tsizeL (mirL ks)) := by
      intro p ks
      induction ks with
      | nil =>
        intro done r hp _ _
        rw [wiL, hp]
        simp [mirL, tsizeL]
      | cons k ks ihk =>
        intro done r hp hd hr
        rw [mirL, tdpL] at hd
        rw [mirL, tsizeL] at hr
        push_cast at hr
        have h1 := ih k r (by omega) (by omega)
        rw [wiL, if_neg (by omega), h1]
        have e : mirL done ++ [mir k] = mirL (done ++ [k]) := by rw [mirL_append]; rfl
        rw [e, ihk (done ++ [k]) (r - tsize (mir k)) (by rw [hp]; simp) (by omega) (by omega), mirL, tsizeL]
        push_cast
        congr 1
        omega
    rintro ⟨a, b, c, dd, l⟩ r hd hr
    rw [mir, tdp] at hd
    rw [mir, tsize] at hr
    push_cast at hr
    have := hL ⟨a, b, c, dd, l⟩ l [] (r - (1 + (dd.length : Int))) rfl (by omega) (by omega)
    rw [wi, if_neg (by show ¬ r - (1 + (dd.length : Int)) < 0; omega)]
    show wiL d ⟨a, b, c, dd, l⟩ l (mirL []) (r - (1 + (dd.length : Int))) = _
    rw [this, mir, tsize]
    push_cast
    congr 1
    omega

mutual
theorem lens_of : ∀ (p : S27), tsize (mir p) ≤ 1000000 → lens p = true
  | ⟨a, b, c, d, l⟩, h => by
    rw [mir, tsize] at h
    have hl := lensL_of l (by omega)
    have hn := len_le l
    rw [lens, hl]
    simp only [Bool.and_true, Bool.and_eq_true, decide_eq_true_eq]
    have : reachBytes = 140737488351232 := by decide
    omega
theorem lensL_of : ∀ (l : List S27), tsizeL (mirL l) ≤ 1000000 → lensL l = true
  | [], _ => rfl
  | x :: xs, h => by
    rw [mirL, tsizeL] at h
    rw [lensL, lens_of x (by omega), lensL_of xs (by omega)]
    rfl
theorem len_le : ∀ (l : List S27), l.length ≤ tsizeL (mirL l)
  | [] => Nat.zero_le _
  | ⟨a, b, c, d, l'⟩ :: xs => by
    rw [mirL, tsizeL, mir, tsize, List.length_cons]
    have := len_le xs
    omega
end

end Go.Proofs.YtbmcpjkhnhbjdaaDoor.Within

namespace Go.Proofs.YtbmcpjkhnhbjdaaDoor.Within
open Go.RowKit Go.Proofs.YtbmcpjkhnhbjdaaDoorW.PrintWords Go.Proofs.YtbmcpjkhnhbjdaaDoor.PFnEncode Go.Proofs.YtbmcpjkhnhbjdaaDoor.Tree Go.Proofs.YtbmcpjkhnhbjdaaDoor.Buf Go.Proofs.YtbmcpjkhnhbjdaaDoor.Num
set_option linter.unusedVariables false
set_option linter.unusedSimpArgs false

/-- texts of at most 200 bytes, at most 20 of them -/
def shortT (l : List ByteArray) : Bool := l.all (fun s => decide (s.size ≤ 200)) && decide (l.length ≤ 20)

theorem short_l0 (x0 : List ByteArray) : ∀ (l pre : List ByteArray), pre.length + l.length < 4611686018427387904 → laws_short.l0 (l.length + 1) x0 (pre ++ l) ((pre ++ l).length : Int) (pre.length : Int) = some (l.all (fun s => decide (s.size ≤ 200)) && decide (x0.length ≤ 20)) := by
  intro l
  induction l with
  | nil =>
    intro pre _
    unfold laws_short.l0
    rw [if_neg (by simp)]
    simp
    omega
  | cons s l ih =>
    intro pre hl
    rw [List.length_cons] at hl
    unfold laws_short.l0
    rw [if_pos (by simp; omega), if_pos (by omega), if_pos (by simp; omega)]
    have e : rdOf ByteArray.empty (pre ++ s :: l) (pre.length : Int) = s := by
      unfold rdOf
      simp
    rw [e]
    by_cases hs : (s.size : Int) > 200
    · rw [if_pos hs]
      simp
      omega
    · rw [if_neg hs]
      have e2 : wrap64 ((pre.length : Int) + 1) = ((pre ++ [s]).length : Int) := by
        unfold wrap64
        simp
        omega
      have e3 : pre ++ s :: l = (pre ++ [s]) ++ l := by simp
      rw [e2, e3, List.length_cons, ih (pre ++ [s]) (by simp; omega)]
      have : decide (s.size ≤ 200) = true := by simp; omega
      simp [this]

theorem short_any (l : List ByteArray) (A : Option Addr) (c : Nat) (w : World) (h : Kd.C Kd.string w A l.length l) (hl : l.length ≤ c) (hn : l.length < 1000000) :
    Calls Tryd.prog 10 #[.slice A l.length c] w fun e w' => e = .returned (.bool (shortT l)) ∧ Below w.heap.size w w' := by
  have hs : laws_short.f (l.length + 1) l = some (shortT l) := by
    unfold laws_short.f shortT
    have := short_l0 l l [] (by simp; omega)
    simpa using this
  refine (laws_short.calls _ A c l _ w h hl hs).mono ?_
  rintro e w' ⟨rfl, ⟨nd, rfl⟩⟩
  exact ⟨rfl, pw_below_drewN (Below.refl _ _) _⟩

/-- texts beside each other in a block -/
theorem strs_block {W : World} {n : Nat} {l : List ByteArray} {arr : Array Value} (hb : W.heap[n]? = some (.cells arr 9 (0, 0))) (ha : arr.toList = l.map Value.string) (hm : l.length ≤ 9223372036854775807) : Kd.C Kd.string W (some ⟨n, 0, none⟩) l.length l := by
  refine ⟨rfl, hm, fun _ => ⟨⟨n, 0, none⟩, rfl, fun j p hj => ⟨[.string p], rfl, rfl, fun i u hu => ?_⟩⟩⟩
  have hi : i = 0 := by
    have := (List.getElem?_eq_some_iff.1 hu).1
    simpa using this
  subst hi
  have hu' : Value.string p = u := by simpa using hu
  subst hu'
  have h1 := blk_cell hb j
  rw [← Array.getElem?_toList, ha, List.getElem?_map, hj] at h1
  have e : (Addr.add ⟨n, 0, none⟩ (j * Kd.string.sz + 0)) = ⟨n, j, none⟩ := by
    show Addr.add ⟨n, 0, none⟩ (j * 1 + 0) = _
    unfold Addr.add
    simp
    intros
    omega
  rw [e, h1]
  rfl
end Go.Proofs.YtbmcpjkhnhbjdaaDoor.Within
namespace Go.Proofs.YtbmcpjkhnhbjdaaDoor.Ber
open Go.RowKit Go.Proofs.YtbmcpjkhnhbjdaaDoorW.PrintWords Go.Proofs.YtbmcpjkhnhbjdaaDoor.PFnEncode Go.Proofs.YtbmcpjkhnhbjdaaDoor.Tree Go.Proofs.YtbmcpjkhnhbjdaaDoor.Buf Go.Proofs.YtbmcpjkhnhbjdaaDoor.Pk Go.Proofs.YtbmcpjkhnhbjdaaDoor.Within Go.Proofs.YtbmcpjkhnhbjdaaDoor.Num
set_option linter.unusedVariables false
set_option linter.unusedSimpArgs false

theorem fine_prim (cls typ tag : Int) (val : Value) (data : List Int) (desc : ByteArray) (h0 : 0 ≤ cls) (h1 : cls ≤ 192) (h2 : cls % 64 = 0) (h3 : typ = 0 ∨ typ = 32) (h4 : 0 ≤ tag) (h5 : tag < 268435456) {n : Nat} (hn : data.length ≤ n) : Fine (prim cls typ tag val data desc) n := ⟨prim_top cls typ tag val data desc h0 h1 h2 h3 h4 h5 hn, okL_nil⟩
theorem whole_len (n : Int) (h : -9223372036854775808 ≤ n ∧ n ≤ 9223372036854775807) : (whole n).length ≤ 8 := by
  have := wl_le8 n h
  rw [whole, be_length]
  exact this
end Go.Proofs.YtbmcpjkhnhbjdaaDoor.Ber
namespace Go.Proofs.YtbmcpjkhnhbjdaaDoor.Ber
open Go.RowKit Go.Proofs.YtbmcpjkhnhbjdaaDoorW.PrintWords Go.Proofs.YtbmcpjkhnhbjdaaDoor.PFnEncode Go.Proofs.YtbmcpjkhnhbjdaaDoor.Tree Go.Proofs.YtbmcpjkhnhbjdaaDoor.Buf Go.Proofs.YtbmcpjkhnhbjdaaDoor.Pk Go.Proofs.YtbmcpjkhnhbjdaaDoor.Within Go.Proofs.YtbmcpjkhnhbjdaaDoor.Num
set_option linter.unusedVariables false
set_option linter.unusedSimpArgs false

/-- children, one after the other -/
def foldK {α : Type} (b : Pk) (f : α → Pk) (l : List α) : Pk := l.foldl (fun x a => addK x (f a)) b
theorem foldK_snoc {α : Type} (b : Pk) (f : α → Pk) (l : List α) (a : α) : foldK b f (l ++ [a]) = addK (foldK b f l) (f a) := by
  unfold foldK
  rw [List.foldl_append]
  rfl
theorem foldK_step {α : Type} (b : Pk) (f : α → Pk) {l : List α} {k : Nat} (hk : k < l.length) : addK (foldK b f (l.take k)) (f l[k]) = foldK b f (l.take (k + 1)) := by
  rw [List.take_succ_eq_append_getElem hk, foldK_snoc]
theorem foldK_fine {α : Type} {b : Pk} {f : α → Pk} {n m : Nat} (hb : Fine b n) (hm : m < 1000000000000) (l : List α) : (∀ a, a ∈ l → Fine (f a) m) → Fine (foldK b f l) (n + l.length * (14 + m)) := by
  obtain ⟨r, rfl⟩ : ∃ r : List α, l = r.reverse := ⟨l.reverse, by simp⟩
  induction r with
  | nil => intro _; exact hb.le (Nat.le_add_right _ _)
  | cons s r ih =>
    intro h
    rw [List.reverse_cons, foldK_snoc]
    refine (fine_add (ih (fun x hx => h x (by rw [List.reverse_cons]; exact List.mem_append_left _ hx))) (h s (by simp)) hm).le ?_
    rw [List.length_append, List.length_singleton, Nat.add_mul]
    omega
theorem tr_fold {α : Type} (cls typ tag : Int) (val : Value) (d : ByteArray) (f : α → Pk) (l : List α) (ht : typ = 32) : trOf (foldK (bare cls typ tag val d) f l) = ⟨cls / 64, tag, true, [], l.map fun a => trOf (f a)⟩ := by
  have key : ∀ l : List α, (foldK (bare cls typ tag val d) f l).cls = cls ∧ (foldK (bare cls typ tag val d) f l).typ = typ ∧ (foldK (bare cls typ tag val d) f l).tag = tag ∧ trL (foldK (bare cls typ tag val d) f l).kids = l.map fun a => trOf (f a) := by
    intro l
    obtain ⟨r, rfl⟩ : ∃ r : List α, l = r.reverse := ⟨l.reverse, by simp⟩
    induction r with
    | nil => exact ⟨rfl, rfl, rfl, rfl⟩
    | cons s r ih =>
      obtain ⟨h1, h2, h3, h4⟩ := ih
      rw [List.reverse_cons, foldK_snoc]
      refine ⟨h1, h2, h3, ?_⟩
      show trL ((foldK (bare cls typ tag val d) f r.reverse).kids ++ [_]) = _
      rw [trL_append, h4, List.map_append]
      congr 1
  obtain ⟨h1, h2, h3, h4⟩ := key l
  generalize foldK (bare cls typ tag val d) f l = x at h1 h2 h3 h4
  obtain ⟨c', t', g', v', bv, data, kids, desc⟩ := x
  simp only at h1 h2 h3 h4
  subst h1
  subst h2
  subst h3
  subst ht
  simp [trOf, h4]

end Go.Proofs.YtbmcpjkhnhbjdaaDoor.Ber
