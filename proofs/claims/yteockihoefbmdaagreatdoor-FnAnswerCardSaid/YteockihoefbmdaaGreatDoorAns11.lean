/- Parts of the proof of one law, in the order in which they build. laws.plain: a packet of the reference as one of the package's. · The five cells of a packet's struct, stored. · A packet of the reference that grows: 'p.Kids = append(p.Kids, k)'; spec.Group and spec.Code. · The bytes of a packet whose data are bytes are bytes. · Plain maths: whole numbers and texts as data, read back. · impl.read at what laws.plain made: the packet, decoded. · ldap.GetLDAPError of a message whose operation is a result: nothing at the code 0, otherwise the error. · ldap.ExtendedOf: the answer to an extended request, decoded. · impl.safely: a closure that returns a truth value is run; recover finds nothing. · impl.Result, impl.Failure. · The closure of impl.Answer. · impl.Answer. -/
import Derived.Recover
import Derived.Defers
import Derived.Test.YteockihoefbmdaaGreatDoorAns1
import Derived.Test.YteockihoefbmdaaGreatDoorAns2
import Derived.Test.YteockihoefbmdaaGreatDoorAns3
import Derived.Test.YteockihoefbmdaaGreatDoorAns4
import Derived.Test.YteockihoefbmdaaGreatDoorAns5
import Derived.Test.YteockihoefbmdaaGreatDoorAns6
import Derived.Test.YteockihoefbmdaaGreatDoorAns7
import Derived.Test.YteockihoefbmdaaGreatDoorAns8
import Derived.Test.YteockihoefbmdaaGreatDoorAns9
import Derived.Test.YteockihoefbmdaaGreatDoorAns10
namespace Go.Proofs.YteockihoefbmdaaGreatDoor.Ber
open Go.RowKit Go.Proofs.YteockihoefbmdaaGreatDoorW.PrintWords Go.Proofs.YteockihoefbmdaaGreatDoor.PFnEncode Go.Proofs.YteockihoefbmdaaGreatDoorW.PrintLast Go.Proofs.YteockihoefbmdaaGreatDoor.Tree Go.Proofs.YteockihoefbmdaaGreatDoor.Buf Go.Proofs.YteockihoefbmdaaGreatDoor.Pk Go.Proofs.YteockihoefbmdaaGreatDoor.Within Go.Proofs.YteockihoefbmdaaGreatDoor.Num
set_option linter.unusedVariables false
set_option linter.unusedSimpArgs false

mutual
/-- the package's packet of the same shape -/
def pl : S34 → S30
  | ⟨a, b, c, d, l⟩ => ⟨a, b, c, d, plL l⟩
def plL : List S34 → List S30
  | [] => []
  | x :: xs => pl x :: plL xs
end
mutual
theorem mir_pl : ∀ x : S34, mir (pl x) = x
  | ⟨a, b, c, d, l⟩ => by rw [pl, mir, mirL_pl l]
theorem mirL_pl : ∀ l : List S34, mirL (plL l) = l
  | [] => by rw [plL, mirL]
  | x :: xs => by rw [plL, mirL, mir_pl x, mirL_pl xs]
end
theorem plL_eq (l : List S34) : plL l = l.map pl := by
  induction l with
  | nil => rw [plL]; rfl
  | cons x xs ih => rw [plL, ih]; rfl
theorem pl_f3 (x : S34) : (pl x).f3 = x.f3 := by obtain ⟨a, b, c, d, l⟩ := x; rw [pl]
theorem pl_f0 (x : S34) : (pl x).f0 = x.f0 := by obtain ⟨a, b, c, d, l⟩ := x; rw [pl]
theorem pl_f1 (x : S34) : (pl x).f1 = x.f1 := by obtain ⟨a, b, c, d, l⟩ := x; rw [pl]
theorem pl_f2 (x : S34) : (pl x).f2 = x.f2 := by obtain ⟨a, b, c, d, l⟩ := x; rw [pl]
theorem pl_f4 (x : S34) : (pl x).f4 = plL x.f4 := by obtain ⟨a, b, c, d, l⟩ := x; rw [pl]
theorem len_tsL : ∀ l : List S34, l.length ≤ tsizeL l
  | [] => Nat.zero_le _
  | ⟨a, b, c, d, k⟩ :: xs => by
    have := len_tsL xs
    rw [tsizeL, tsize, List.length_cons]
    omega
/-- the blocks that a kid's memory may lie in -/
def okB (w0 w : World) (k : Nat) : Prop := (k < w0.heap.size ∨ w.heap.size ≤ k) ∧ k ≠ w.heap.size + 1 ∧ k ≠ w.heap.size + 2
/-- what a call leaves -/
def Pln (w0 w : World) (x : S34) (A3 : Option Addr) (c3 : Nat) (e : Ending) (w' : World) : Prop :=
  ∃ B4 d4, e = .returned (.agg #[.int .i64 x.f0, .int .i64 x.f1, .bool x.f2, .slice A3 x.f3.length c3, .slice B4 (plL x.f4).length d4]) ∧ (plL x.f4).length ≤ d4 ∧ Kd.F k30 w' (fun k => k < w0.heap.size ∨ w.heap.size ≤ k) B4 (plL x.f4).length (plL x.f4) ∧ Below w.heap.size w w'
/-- what stands at the loop's head -/
structure PInv (w0 w W : World) (x : S34) (A3 : Option Addr) (c3 : Nat) (v : Value) (l : List S30) : Prop where
  bel : Below w.heap.size w W
  res : W.heap[w.heap.size + 1]? = some (.cells #[.int .i64 0, .int .i64 0, .bool false, .slice none 0 0, .slice none 0 0] 30 (0, 0))
  hg : W.heap[w.heap.size + 2]? = some (.cells #[.int .i64 x.f0, .int .i64 x.f1, .bool x.f2, .slice A3 x.f3.length c3, v] 30 (0, 0))
  row : Kd.N k30 30 W w.heap.size (okB w0 w) v l
section
variable {w0 w W W' w1 : World} {x : S34} {A3 : Option Addr} {c3 : Nat} {v v1 : Value} {l : List S30}
theorem PInv.step (h : PInv w0 w W x A3 c3 v l) (hb : Below W.heap.size W W') : PInv w0 w W' x A3 c3 v l := ⟨h.bel.trans (hb.mono h.bel.size), blk_below h.res hb, blk_below h.hg hb, Kd.N_below h.row hb⟩
theorem PInv.ne (h : PInv w0 w W x A3 c3 v l) : some (w.heap.size + 2) ≠ v.ownBlock := Kd.N_away h.row (fun k hk => hk.2.2)
theorem PInv.ne1 (h : PInv w0 w W x A3 c3 v l) : some (w.heap.size + 1) ≠ v.ownBlock := Kd.N_away h.row (fun k hk => hk.2.1)
theorem PInv.fresh (h : PInv w0 w W x A3 c3 v l) : ∀ k, W.heap.size ≤ k → okB w0 w k := fun k hk => by
  have h1 := blk_lt h.hg
  exact ⟨.inr (by omega), by omega, by omega⟩
theorem PInv.app (h : PInv w0 w W x A3 c3 v l) {y : S30} (hR : Kd.N k30 30 w1 w.heap.size (okB w0 w) v1 (l ++ [y])) (hb : Below w.heap.size W w1) (hg : W.grownBy w1 v.ownBlock) : PInv w0 w (w1.setCell ⟨w.heap.size + 2, 4, none⟩ v1) x A3 c3 v1 (l ++ [y]) :=
  ⟨h.bel.trans (hb.setCell (p := ⟨w.heap.size + 2, 4, none⟩) (by show w.heap.size ≤ w.heap.size + 2; omega) v1), blk_far (blk_grown h.res hg h.ne1) (p := ⟨w.heap.size + 2, 4, none⟩) (by show w.heap.size + 1 ≠ w.heap.size + 2; omega) v1, blk_set (blk_grown h.hg hg h.ne) 4 v1, Kd.N_far hR (p := ⟨w.heap.size + 2, 4, none⟩) (fun k hk => hk.2.2) v1⟩
/-- a kid that was made behind the row -/
theorem PInv.kid (h : PInv w0 w W x A3 c3 v l) (hw : Below w0.heap.size w0 w) (hb : Below W.heap.size W W') {kid : S34} {K3 : Option Addr} {q3 : Nat} {B4 : Option Addr} {d4 : Nat} (l3 : kid.f3.length ≤ q3) (h3 : Kd.F (Kd.int .u8) w0 (fun k => k < w0.heap.size) K3 kid.f3.length kid.f3) (l4 : (plL kid.f4).length ≤ d4) (h4 : Kd.F k30 W' (fun k => k < w0.heap.size ∨ W.heap.size ≤ k) B4 (plL kid.f4).length (plL kid.f4)) :
    Kd.FK k30 W' (fun k => okB w0 w k ∧ some k ≠ v.ownBlock) (pl kid) [.int .i64 kid.f0, .int .i64 kid.f1, .bool kid.f2, .slice K3 kid.f3.length q3, .slice B4 (plL kid.f4).length d4] := by
  have hbw := h.bel.trans (hb.mono h.bel.size)
  have key : ∀ k, k < w0.heap.size ∨ W.heap.size ≤ k → okB w0 w k ∧ some k ≠ v.ownBlock := fun k hk => by
    have h1 := blk_lt h.hg
    have h2 := hw.size
    refine ⟨⟨hk.imp id (fun hk => by omega), by omega, by omega⟩, fun e => ?_⟩
    have h3 := Kd.N_lt h.row k e.symm
    rcases hk with hk | hk
    · exact absurd (Kd.N_base h.row k e.symm) (by omega)
    · omega
  have g3 : Kd.F (Kd.int .u8) W' (fun k => okB w0 w k ∧ some k ≠ v.ownBlock) K3 kid.f3.length kid.f3 := Kd.F_mono (Kd.F_step h3 (fun k hk _ => ((hbw.block k (Nat.lt_of_lt_of_le hk hw.size))).trans (hw.block k hk))) (fun k hk => key k (.inl hk))
  have g4 := Kd.F_mono h4 key
  obtain ⟨a, b, c, d, kk⟩ := kid
  have := k30_mkF W' (fun k => okB w0 w k ∧ some k ≠ v.ownBlock) (pl ⟨a, b, c, d, kk⟩) (A3 := K3) (c3 := q3) (by rw [pl]; exact l3) (by rw [pl]; exact g3) (A4 := B4) (c4 := d4) (by rw [pl]; exact l4) (by rw [pl]; exact g4)
  rw [pl] at this ⊢
  exact this
theorem pln_end {W3 : World} (h : PInv w0 w W x A3 c3 v (plL x.f4))
    (hW3 : W3 = (((((W.setCell ⟨w.heap.size + 1, 0, none⟩ (.int .i64 x.f0)).setCell ⟨w.heap.size + 1, 1, none⟩ (.int .i64 x.f1)).setCell ⟨w.heap.size + 1, 2, none⟩ (.bool x.f2)).setCell ⟨w.heap.size + 1, 3, none⟩ (.slice A3 x.f3.length c3)).setCell ⟨w.heap.size + 1, 4, none⟩ v)) :
    W3.heap[w.heap.size + 1]? = some (.cells #[.int .i64 x.f0, .int .i64 x.f1, .bool x.f2, .slice A3 x.f3.length c3, v] 30 (0, 0)) ∧ Pln w0 w x A3 c3 (.returned (.agg #[.int .i64 x.f0, .int .i64 x.f1, .bool x.f2, .slice A3 x.f3.length c3, v])) W3 := by
  have h5 := blk_set (blk_set (blk_set (blk_set (blk_set h.res 0 (.int .i64 x.f0)) 1 (.int .i64 x.f1)) 2 (.bool x.f2)) 3 (.slice A3 x.f3.length c3)) 4 v
  rw [← hW3] at h5
  obtain ⟨B4, d4, hv, hd, _⟩ := Kd.N_reads h.row
  subst hv
  have hn : ∀ i, w.heap.size ≤ (⟨w.heap.size + 1, i, none⟩ : Addr).block := fun i => Nat.le_succ _
  have hk : ∀ i k, okB w0 w k → k ≠ (⟨w.heap.size + 1, i, none⟩ : Addr).block := fun i k hk => hk.2.1
  refine ⟨h5, B4, d4, rfl, hd, Kd.F_mono (ok := okB w0 w) ?_ (fun k hk => hk.1), ?_⟩
  · rw [hW3]
    exact Kd.F_far (Kd.F_far (Kd.F_far (Kd.F_far (Kd.F_far (Kd.N_F h.row) (hk 0) _) (hk 1) _) (hk 2) _) (hk 3) _) (hk 4) _
  · rw [hW3]
    exact ((((h.bel.setCell (p := ⟨w.heap.size + 1, 0, none⟩) (hn 0) _).setCell (p := ⟨w.heap.size + 1, 1, none⟩) (hn 1) _).setCell (p := ⟨w.heap.size + 1, 2, none⟩) (hn 2) _).setCell (p := ⟨w.heap.size + 1, 3, none⟩) (hn 3) _).setCell (p := ⟨w.heap.size + 1, 4, none⟩) (hn 4) _
end
set_option maxHeartbeats 6400000 in
set_option maxRecDepth 100000 in
theorem plain_any (w0 : World) : ∀ (n : Nat) (x : S34), dpx x ≤ n → tsize x ≤ 1000000 → ∀ (A3 : Option Addr) (c3 : Nat) (A4 : Option Addr) (c4 : Nat) (w : World), (Kd.int .u8).C w0 A3 x.f3.length x.f3 → x.f3.length ≤ c3 → k34.C w0 A4 x.f4.length x.f4 → x.f4.length ≤ c4 → Below w0.heap.size w0 w →
    Calls Tryz.prog 10 #[.agg #[.int .i64 x.f0, .int .i64 x.f1, .bool x.f2, .slice A3 x.f3.length c3, .slice A4 x.f4.length c4]] w (Pln w0 w x A3 c3) := by
  intro n
  induction n with
  | zero =>
    rintro ⟨a, b, c, d, l⟩ hd
    rw [dpx] at hd
    omega
  | succ n ih =>
    intro x hd hts A3 c3 A4 c4 w h3 l3 h4 l4 hB0
    have hdl : dpxL x.f4 ≤ n := by
      obtain ⟨a, b, c, d, l⟩ := x
      rw [dpx] at hd
      simp only
      omega
    have htl : tsizeL x.f4 ≤ 1000000 := by
      obtain ⟨a, b, c, d, l⟩ := x
      rw [tsize] at hts
      simp only
      omega
    have hlen : x.f4.length ≤ 1000000 := Nat.le_trans (len_tsL _) htl
    have HIH : Hid (∀ y, y ∈ x.f4 → ∀ (K3 : Option Addr) (q3 : Nat) (K4 : Option Addr) (q4 : Nat) (W : World), (Kd.int .u8).C w0 K3 y.f3.length y.f3 → y.f3.length ≤ q3 → k34.C w0 K4 y.f4.length y.f4 → y.f4.length ≤ q4 → Below w0.heap.size w0 W → Calls Tryz.prog 10 #[.agg #[.int .i64 y.f0, .int .i64 y.f1, .bool y.f2, .slice K3 y.f3.length q3, .slice K4 y.f4.length q4]] W (Pln w0 W y K3 q3)) := Lib.hid (fun y hy => ih y (Nat.le_trans (dpxL_mem hy) hdl) (Nat.le_trans (tsizeL_mem hy) htl))
    have H4 := Lib.hid h4
    obtain ⟨Z, hZ⟩ : ∃ Z : Obj, Z = (Obj.cells #[.int .i64 0, .int .i64 0, .bool false, .slice none 0 0, .slice none 0 0] 30) := ⟨_, rfl⟩
    have hbx0 := heap_alloc_new w (.cells #[.int .i64 x.f0, .int .i64 x.f1, .bool x.f2, .slice A3 x.f3.length c3, .slice A4 x.f4.length c4] 34)
    have hs1 : (w.alloc (.cells #[.int .i64 x.f0, .int .i64 x.f1, .bool x.f2, .slice A3 x.f3.length c3, .slice A4 x.f4.length c4] 34)).heap.size = w.heap.size + 1 := by simp
    have hres0 := heap_alloc_new (w.alloc (.cells #[.int .i64 x.f0, .int .i64 x.f1, .bool x.f2, .slice A3 x.f3.length c3, .slice A4 x.f4.length c4] 34)) Z
    obtain ⟨W1, hW1⟩ : ∃ W1, W1 = (w.alloc (.cells #[.int .i64 x.f0, .int .i64 x.f1, .bool x.f2, .slice A3 x.f3.length c3, .slice A4 x.f4.length c4] 34)).alloc Z := ⟨_, rfl⟩
    have hbx : W1.heap[w.heap.size]? = some (.cells #[.int .i64 x.f0, .int .i64 x.f1, .bool x.f2, .slice A3 x.f3.length c3, .slice A4 x.f4.length c4] 34 (0, 0)) := by rw [hW1, Below.heap_alloc _ _ _ (by rw [hs1]; omega)]; exact hbx0
    rw [hs1, ← hW1, hZ] at hres0
    have hb1 : Below w.heap.size w W1 := by rw [hW1]; exact below_alloc (below_alloc (Below.refl _ _) _) _
    have hsz1 : W1.heap.size = w.heap.size + 2 := by rw [hW1]; simp
    have HBX := Lib.hid hbx
    have HRES := Lib.hid hres0
    have HSZ := Lib.hid hsz1
    have HB1 := Lib.hid hb1
    have b0 : W1.cell? ⟨w.heap.size, 0, none⟩ = some (.int .i64 x.f0) := blk_cell hbx 0
    have b1 : W1.cell? ⟨w.heap.size, 1, none⟩ = some (.int .i64 x.f1) := blk_cell hbx 1
    have b2 : W1.cell? ⟨w.heap.size, 2, none⟩ = some (.bool x.f2) := blk_cell hbx 2
    have b3 : W1.cell? ⟨w.heap.size, 3, none⟩ = some (.slice A3 x.f3.length c3) := blk_cell hbx 3
    have b4 : W1.cell? ⟨w.heap.size, 4, none⟩ = some (.slice A4 x.f4.length c4) := blk_cell hbx 4
    have b4a : ∀ o, (W1.alloc o).cell? ⟨w.heap.size, 4, none⟩ = some (.slice A4 x.f4.length c4) := fun o => (World.cell?_of_block (a := ⟨w.heap.size, 4, none⟩) (Below.heap_alloc W1 o _ (by show w.heap.size < _; omega))).trans b4
    subst hZ
    clear ih h4 hbx0 hs1 hbx hres0 hb1 hsz1 hd hts
    rw [hW1] at b0 b1 b2 b3 b4 b4a
    have HW1 := Lib.hid hW1
    clear hW1
    go_enter Tryz.func10, Tryz.ntmps10
    go_wp2
    rw [← HW1.out]
    obtain ⟨W3, hW3⟩ : ∃ W3, W3 = W1.alloc (.cells #[.int .i64 x.f0, .int .i64 x.f1, .bool x.f2, .slice A3 x.f3.length c3, .slice none 0 0] 30) := ⟨_, rfl⟩
    rw [← hW3]
    try rw [show w.heap.size + 1 + 1 = w.heap.size + 2 from rfl]
    have hI : PInv w0 w W3 x A3 c3 (.slice none 0 0) [] := by
      rw [hW3]
      refine ⟨below_alloc HB1.out _, blk_alloc HRES.out _, ?_, Kd.N_nil _ _ _ _ _⟩
      rw [← HSZ.out]
      exact blk_new _ _
    have HI := Lib.hid hI
    clear hI hW3 b0 b1 b2 b3 b4 b4a
    go_loopw [18] (fun i wr => ∃ (k : Nat) (v : Value), k ≤ x.f4.length ∧ i = .int .i64 k ∧ Hid (PInv w0 w wr x A3 c3 v (plL (x.f4.take k)))) (fun i _ => x.f4.length - (intOf i).toNat)
    case atStart => exact ⟨0, .slice none 0 0, Nat.zero_le _, rfl, HI⟩
    case round =>
      obtain ⟨k, v, hk, rfl, HV⟩ := hrel
      clear HI
      by_cases hlt : k < x.f4.length
      · have hBw : Below w0.heap.size w0 wr := hB0.trans (HV.out.bel.mono hB0.size)
        obtain ⟨ad, A3', c3', A4', c4', rfl, e0, e1, e2, e3, e4, m3, n3, m4, n4⟩ := at_T34 H4.out (k : Int) (by omega) (by omega)
        rw [Int.toNat_natCast] at e0 e1 e2 e3 e4
        obtain ⟨kid, hkid⟩ : ∃ kid, kid = rd_T34 x.f4 (k : Int) := ⟨_, rfl⟩
        have hkk : kid = x.f4[k] := by rw [hkid, rd_T34, Int.toNat_natCast, List.getD_eq_getElem?_getD, List.getElem?_eq_getElem hlt]; rfl
        rw [← hkid] at e0 e1 e2 e3 e4 m3 n3 m4 n4
        replace e0 := (hBw.cell (World.block_lt_of_cell? w0 _ e0)).trans e0
        replace e1 := (hBw.cell (World.block_lt_of_cell? w0 _ e1)).trans e1
        replace e2 := (hBw.cell (World.block_lt_of_cell? w0 _ e2)).trans e2
        replace e3 := (hBw.cell (World.block_lt_of_cell? w0 _ e3)).trans e3
        replace e4 := (hBw.cell (World.block_lt_of_cell? w0 _ e4)).trans e4
        have HST : Hid (plL (x.f4.take k) ++ [pl kid] = plL (x.f4.take (k + 1))) := Lib.hid (by rw [hkk, plL_eq, plL_eq, List.take_succ_eq_append_getElem hlt, List.map_append]; rfl)
        have HLE : Hid (((plL (x.f4.take k)).length + 1) * 72 ≤ 140737488355328) := Lib.hid (by rw [plL_eq, List.length_map, List.length_take]; omega)
        have HCC : Hid (∀ W, Below w0.heap.size w0 W → Calls Tryz.prog 10 #[.agg #[.int .i64 kid.f0, .int .i64 kid.f1, .bool kid.f2, .slice A3' kid.f3.length c3', .slice A4' kid.f4.length c4']] W (Pln w0 W kid A3' c3')) := Lib.hid (fun W hW => HIH.out kid (by rw [hkk]; exact List.getElem_mem hlt) A3' c3' A4' c4' W n3 m3 n4 m4 hW)
        have HLK : Hid (kid.f3.length ≤ c3' ∧ (Kd.int .u8).C w0 A3' kid.f3.length kid.f3) := Lib.hid ⟨m3, n3⟩
        obtain ⟨acc, hacc⟩ : ∃ acc, acc = plL (x.f4.take k) := ⟨_, rfl⟩
        rw [← hacc] at HST HLE HV
        clear hkid hkk hacc m3 n3 m4 n4
        go_wp2_with fail
        obtain ⟨W5, hW5⟩ : ∃ W5, W5 = wr.alloc (.cells #[.int .i64 kid.f0, .int .i64 kid.f1, .bool kid.f2, .slice A3' kid.f3.length c3', .slice A4' kid.f4.length c4'] 34) := ⟨_, rfl⟩
        rw [← hW5]
        have hb5 : Below wr.heap.size wr W5 := by rw [hW5]; exact below_alloc (Below.refl _ _) _
        have hk5 : W5.drew.heap[wr.heap.size]? = some (.cells #[.int .i64 kid.f0, .int .i64 kid.f1, .bool kid.f2, .slice A3' kid.f3.length c3', .slice A4' kid.f4.length c4'] 34 (0, 0)) := by rw [hW5]; exact blk_new _ _
        have HI5 := Lib.hid (HV.out.step (W' := W5.drew) hb5.drew)
        have HX5 := Lib.hid hk5
        have HC := Lib.hid (HCC.out W5.drew (hBw.trans (hb5.drew.mono hBw.size)))
        have HVX : Hid (some wr.heap.size ≠ v.ownBlock) := Lib.hid (fun e => by have := Kd.N_lt HV.out.row _ e.symm; omega)
        have s4 : W5.drew.cell? ⟨w.heap.size + 2, 4, none⟩ = some v := blk_cell HI5.out.hg 4
        have q0 := blk_cell hk5 0
        have q1 := blk_cell hk5 1
        have q2 := blk_cell hk5 2
        have q3 := blk_cell hk5 3
        have q4 := blk_cell hk5 4
        clear e0 e1 e2 e3 e4 hW5 hk5 hb5
        refine start_ (n := 8) (S := fun w' => w'.cell? ⟨w.heap.size + 2, 4, none⟩ = some v ∧ w'.cell? ⟨wr.heap.size, 0, none⟩ = some (.int .i64 kid.f0) ∧ w'.cell? ⟨wr.heap.size, 1, none⟩ = some (.int .i64 kid.f1) ∧ w'.cell? ⟨wr.heap.size, 2, none⟩ = some (.bool kid.f2) ∧ w'.cell? ⟨wr.heap.size, 3, none⟩ = some (.slice A3' kid.f3.length c3') ∧ w'.cell? ⟨wr.heap.size, 4, none⟩ = some (.slice A4' kid.f4.length c4')) (ds := [7]) #[nN,nN,nN,nN,nN,nN,nN,nN] (by kernel_rfl) rfl rfl ⟨s4, q0, q1, q2, q3, q4⟩ (fun hHeld => ?_)
        refine pure_ (i := 0) (N := some 22) (v := ?_) (a' := ?_) #[yY,nN,nN,nN,nN,nN,nN,nN] rfl rfl (by kernel_rfl) (fun _ _ _ h => h) (Or.inl ⟨by rfl, ?_⟩) ?_ ?_
        rotate_left
        · intro w'
          go_simp
          with_reducible rfl
        rotate_left
        · simp only [Act.put, List.setIfInBounds_toArray, List.set_cons_zero, List.set_cons_succ, i64_w, i32_w]
          rfl
        refine take_ (i := 1) (N := some 23) (v := ?_) (a' := ?_) #[yY,yY,nN,nN,nN,nN,nN,nN] rfl rfl (by kernel_rfl) (fun _ _ _ h => h) (Or.inl ⟨by rfl, ?_⟩) hHeld ?_ ?_
        rotate_left
        · rintro w' ⟨s0, s1, s2, s3, s4, s5⟩
          go_simp
          with_reducible rfl
        rotate_left
        · simp only [Act.put, List.setIfInBounds_toArray, List.set_cons_zero, List.set_cons_succ, i64_w, i32_w]
          rfl
        refine take_ (i := 2) (N := some 24) (v := ?_) (a' := ?_) #[yY,yY,yY,nN,nN,nN,nN,nN] rfl rfl (by kernel_rfl) (fun _ _ _ h => h) (Or.inl ⟨by rfl, ?_⟩) hHeld ?_ ?_
        rotate_left
        · rintro w' ⟨s0, s1, s2, s3, s4, s5⟩
          go_simp
          with_reducible rfl
        rotate_left
        · simp only [Act.put, List.setIfInBounds_toArray, List.set_cons_zero, List.set_cons_succ, i64_w, i32_w]
          rfl
        refine one_ (i := 3) (N := some 25) #[yY,yY,yY,yY,nN,nN,nN,nN] rfl rfl (by kernel_rfl) (by decide) (fun K hK => ?_)
        refine goes_ Tryz.func10 (by kernel_rfl) rfl #[.agg #[.int .i64 kid.f0, .int .i64 kid.f1, .bool kid.f2, .slice A3' kid.f3.length c3', .slice A4' kid.f4.length c4']] (by rfl) rfl rfl (by simp only [List.map_toArray, List.map_cons, List.map_nil]; rfl) ?_
        with_reducible refine (HC.out).mono ?_
        rintro e W6 h6
        obtain ⟨B4, d4, rfl, l6, f6, hB6⟩ := h6
        refine ⟨_, rfl, ?_⟩
        have HI6 := Lib.hid (HI5.out.step hB6)
        have HK6 := Lib.hid (HI5.out.kid hB0 hB6 HLK.out.1 (Kd.C_F (Kd.heap_int .u8) HLK.out.2) l6 f6)
        have HX6 := Lib.hid (blk_below HX5.out hB6)
        clear l6 f6 hB6
        refine hK.out _ _ ⟨blk_cell HI6.out.hg 4, blk_cell HX6.out 0, blk_cell HX6.out 1, blk_cell HX6.out 2, blk_cell HX6.out 3, blk_cell HX6.out 4⟩ (fun hHeld => ?_)
        clear hK K
        refine norm_ (a' := ?_) ?_ ?_
        rotate_left
        · show Act.put _ (some 25) _ = _
          simp only [Act.put, List.setIfInBounds_toArray, List.set_cons_zero, List.set_cons_succ, i64_w, i32_w]
          rfl
        refine one_ (i := 4) (N := some 26) #[yY,yY,yY,yY,yY,nN,nN,nN] rfl rfl (by kernel_rfl) (by decide) (fun K hK => ?_)
        refine value_ (w1 := ?_) (v := ?_) (by rfl) rfl ?_ ?_
        rotate_left 2
        · go_simp
          constructor
          · rfl
          · rfl
        refine hK.out _ _ ⟨blk_cell (blk_alloc HI6.out.hg _) 4, blk_cell (blk_alloc HX6.out _) 0, blk_cell (blk_alloc HX6.out _) 1, blk_cell (blk_alloc HX6.out _) 2, blk_cell (blk_alloc HX6.out _) 3, blk_cell (blk_alloc HX6.out _) 4⟩ (fun hHeld => ?_)
        clear hK K
        refine norm_ (a' := ?_) ?_ ?_
        rotate_left
        · show Act.put _ (some 26) _ = _
          simp only [Act.put, List.setIfInBounds_toArray, List.set_cons_zero, List.set_cons_succ, i64_w, i32_w]
          rfl
        refine one_ (i := 5) (N := some 27) #[yY,yY,yY,yY,yY,yY,nN,nN] rfl rfl (by kernel_rfl) (by decide) (fun K hK => ?_)
        refine Kd.N_append_step k30 (w0 := W6) (W := W6) w.heap.size (by rfl) (.tmp 23) (.tmp 26) 28 30 (.agg #[.int .i64 0, .int .i64 0, .bool false, .slice none 0 0, .slice none 0 0]) 72 (by rfl) Tryz.underlying28 info_ip rfl (show 0 < 5 by decide) (by decide) v acc (pl kid) _ (okB w0 w) _ (by rfl) (by rfl) HK6.out (fun _ h => h) HI6.out.fresh HI6.out.row (Below.refl _ _) HI6.out.bel.size HLE.out ?_
        intro v1 w1 hR hb hg hat
        have x0 : w1.cell? ⟨w.heap.size + 2, 4, none⟩ = some v := blk_cell (blk_grown HI6.out.hg hg HI6.out.ne) 4
        have xf : w1.frozen? ⟨w.heap.size + 2, 4, none⟩ = false := blk_frozen (blk_grown HI6.out.hg hg HI6.out.ne) 4
        have hx1 := blk_grown HX6.out hg HVX.out
        obtain ⟨Aq, cq, hvq⟩ := Kd.N_slice hR
        have h8 := HI6.out.app hR hb hg
        obtain ⟨n, hn⟩ : ∃ n, n = (acc ++ [pl kid]).length := ⟨_, rfl⟩
        rw [← hn] at hvq
        subst hvq
        have HI8 := Lib.hid h8
        have HX8 := Lib.hid hx1
        clear hR hb hg hat hn h8 hx1
        refine hK.out _ _ ⟨x0, blk_cell HX8.out 0, blk_cell HX8.out 1, blk_cell HX8.out 2, blk_cell HX8.out 3, blk_cell HX8.out 4⟩ (fun hHeld => ?_)
        clear hK K
        refine norm_ (a' := ?_) ?_ ?_
        rotate_left
        · show Act.put _ (some 27) _ = _
          simp only [Act.put, List.setIfInBounds_toArray, List.set_cons_zero, List.set_cons_succ, i64_w, i32_w]
          rfl
        refine pure_ (i := 6) (N := some 28) (v := ?_) (a' := ?_) #[yY,yY,yY,yY,yY,yY,yY,nN] rfl rfl (by kernel_rfl) (fun _ _ _ h => h) (Or.inl ⟨by rfl, ?_⟩) ?_ ?_
        rotate_left
        · intro w'
          go_simp
          with_reducible rfl
        rotate_left
        · simp only [Act.put, List.setIfInBounds_toArray, List.set_cons_zero, List.set_cons_succ, i64_w, i32_w]
          rfl
        refine last_ (i := 7) (N := none) #[yY,yY,yY,yY,yY,yY,yY,yY] rfl rfl (by kernel_rfl) (by decide) (fun K hK => ?_)
        refine skip_ (w1 := ?_) (by rfl) rfl ?_ ?_
        rotate_left
        · go_simp
          rfl
        refine hK.out _ _ ?_
        clear hK K
        refine done_ (by kernel_rfl) ?_
        go_wp2
        exact ⟨⟨k + 1, _, hlt, by first | rfl | go_num, Lib.hid (by rw [← HST.out]; exact HI8.out)⟩, by simp [intOf]; omega⟩
      · obtain rfl : k = x.f4.length := by omega
        rw [List.take_length] at HV
        obtain ⟨B4, d4, hv, hd, _⟩ := Kd.N_reads HV.out.row
        subst hv
        have o0 : wr.cell? ⟨w.heap.size + 2, 0, none⟩ = some (.int .i64 x.f0) := blk_cell HV.out.hg 0
        have o1 : wr.cell? ⟨w.heap.size + 2, 1, none⟩ = some (.int .i64 x.f1) := blk_cell HV.out.hg 1
        have o2 : wr.cell? ⟨w.heap.size + 2, 2, none⟩ = some (.bool x.f2) := blk_cell HV.out.hg 2
        have o3 : wr.cell? ⟨w.heap.size + 2, 3, none⟩ = some (.slice A3 x.f3.length c3) := blk_cell HV.out.hg 3
        have o4 : wr.cell? ⟨w.heap.size + 2, 4, none⟩ = some (.slice B4 (plL x.f4).length d4) := blk_cell HV.out.hg 4
        have kf0 : wr.frozen? ⟨w.heap.size + 1, 0, none⟩ = false := blk_frozen HV.out.res 0
        have kf1 : wr.frozen? ⟨w.heap.size + 1, 1, none⟩ = false := blk_frozen HV.out.res 1
        have kf2 : wr.frozen? ⟨w.heap.size + 1, 2, none⟩ = false := blk_frozen HV.out.res 2
        have kf3 : wr.frozen? ⟨w.heap.size + 1, 3, none⟩ = false := blk_frozen HV.out.res 3
        have kf4 : wr.frozen? ⟨w.heap.size + 1, 4, none⟩ = false := blk_frozen HV.out.res 4
        have k0 : wr.cell? ⟨w.heap.size + 1, 0, none⟩ = some (.int .i64 0) := blk_cell HV.out.res 0
        have k1 : wr.cell? ⟨w.heap.size + 1, 1, none⟩ = some (.int .i64 0) := blk_cell HV.out.res 1
        have k2 : wr.cell? ⟨w.heap.size + 1, 2, none⟩ = some (.bool false) := blk_cell HV.out.res 2
        have k3 : wr.cell? ⟨w.heap.size + 1, 3, none⟩ = some (.slice none 0 0) := blk_cell HV.out.res 3
        have k4 : wr.cell? ⟨w.heap.size + 1, 4, none⟩ = some (.slice none 0 0) := blk_cell HV.out.res 4
        clear hd
        go_wp2
        try simp only [Exit.inBlock, Exit.then]
        obtain ⟨h5, hend⟩ := pln_end HV.out rfl
        exact bodyPost_ret (results_u rfl _ _ _ _ _ _ _ rfl h5 Tryz.underlying30 rfl size_ip) rfl hend
end Go.Proofs.YteockihoefbmdaaGreatDoor.Ber
namespace Go.Proofs.YteockihoefbmdaaGreatDoor.Ber
open Go.RowKit Go.Proofs.YteockihoefbmdaaGreatDoorW.PrintWords Go.Proofs.YteockihoefbmdaaGreatDoor.PFnEncode Go.Proofs.YteockihoefbmdaaGreatDoorW.PrintLast Go.Proofs.YteockihoefbmdaaGreatDoor.Tree Go.Proofs.YteockihoefbmdaaGreatDoor.Buf Go.Proofs.YteockihoefbmdaaGreatDoor.Pk Go.Proofs.YteockihoefbmdaaGreatDoor.Within Go.Proofs.YteockihoefbmdaaGreatDoor.Num
set_option linter.unusedVariables false
set_option linter.unusedSimpArgs false

theorem far5 {W : World} {g h : Nat} {cs : Array Value} {t : TypeId} (hx : W.heap[h]? = some (.cells cs t (0, 0))) (hne : h ≠ g) (v0 v1 v2 v3 v4 : Value) : (((((W.setCell ⟨g, 0, none⟩ v0).setCell ⟨g, 1, none⟩ v1).setCell ⟨g, 2, none⟩ v2).setCell ⟨g, 3, none⟩ v3).setCell ⟨g, 4, none⟩ v4).heap[h]? = some (.cells cs t (0, 0)) :=
  blk_far (blk_far (blk_far (blk_far (blk_far hx (p := ⟨g, 0, none⟩) hne v0) (p := ⟨g, 1, none⟩) hne v1) (p := ⟨g, 2, none⟩) hne v2) (p := ⟨g, 3, none⟩) hne v3) (p := ⟨g, 4, none⟩) hne v4
theorem set5 {W : World} {g : Nat} {z0 z1 z2 z3 z4 : Value} {t : TypeId} (hx : W.heap[g]? = some (.cells #[z0, z1, z2, z3, z4] t (0, 0))) (v0 v1 v2 v3 v4 : Value) : (((((W.setCell ⟨g, 0, none⟩ v0).setCell ⟨g, 1, none⟩ v1).setCell ⟨g, 2, none⟩ v2).setCell ⟨g, 3, none⟩ v3).setCell ⟨g, 4, none⟩ v4).heap[g]? = some (.cells #[v0, v1, v2, v3, v4] t (0, 0)) :=
  blk_set (blk_set (blk_set (blk_set (blk_set hx 0 v0) 1 v1) 2 v2) 3 v3) 4 v4
theorem heap5 {W : World} {g k : Nat} (hne : k ≠ g) (v0 v1 v2 v3 v4 : Value) : (((((W.setCell ⟨g, 0, none⟩ v0).setCell ⟨g, 1, none⟩ v1).setCell ⟨g, 2, none⟩ v2).setCell ⟨g, 3, none⟩ v3).setCell ⟨g, 4, none⟩ v4).heap[k]? = W.heap[k]? := by
  rw [Below.heap_setCell _ ⟨g, 4, none⟩ v4 k hne, Below.heap_setCell _ ⟨g, 3, none⟩ v3 k hne, Below.heap_setCell _ ⟨g, 2, none⟩ v2 k hne, Below.heap_setCell _ ⟨g, 1, none⟩ v1 k hne, Below.heap_setCell _ ⟨g, 0, none⟩ v0 k hne]
theorem below5 {w W : World} {g B : Nat} (h : Below B w W) (hg : B ≤ g) (v0 v1 v2 v3 v4 : Value) : Below B w (((((W.setCell ⟨g, 0, none⟩ v0).setCell ⟨g, 1, none⟩ v1).setCell ⟨g, 2, none⟩ v2).setCell ⟨g, 3, none⟩ v3).setCell ⟨g, 4, none⟩ v4) :=
  ((((h.setCell (p := ⟨g, 0, none⟩) hg v0).setCell (p := ⟨g, 1, none⟩) hg v1).setCell (p := ⟨g, 2, none⟩) hg v2).setCell (p := ⟨g, 3, none⟩) hg v3).setCell (p := ⟨g, 4, none⟩) hg v4
/-- the reference's message -/
def msgT (id : Int) (x : S34) (ss : List S34) : S34 := tL ([⟨0, 2, false, whole id, []⟩, x] ++ (if ss.isEmpty then [] else [⟨2, 0, true, [], ss⟩]))
theorem two_new (w : World) (x1 x2 : Array Value) (t1 t2 : TypeId) : ((w.alloc (.cells x1 t1)).alloc (.cells x2 t2)).heap[w.heap.size + 1]? = some (.cells x2 t2 (0, 0)) := by
  have := blk_new (w.alloc (.cells x1 t1)) (.cells x2 t2)
  have e : (w.alloc (.cells x1 t1)).heap.size = w.heap.size + 1 := by simp
  rwa [e] at this
end Go.Proofs.YteockihoefbmdaaGreatDoor.Ber
namespace Go.Proofs.YteockihoefbmdaaGreatDoor.Ber
open Go.RowKit Go.Proofs.YteockihoefbmdaaGreatDoorW.PrintWords Go.Proofs.YteockihoefbmdaaGreatDoor.PFnEncode Go.Proofs.YteockihoefbmdaaGreatDoor.Buf Go.Proofs.YteockihoefbmdaaGreatDoor.Pk Go.Proofs.YteockihoefbmdaaGreatDoor.Within Go.Proofs.YteockihoefbmdaaGreatDoor.Num
set_option linter.unusedVariables false
set_option linter.unusedSimpArgs false

section
end

/-- an enumerated number -/
def tC (n : Int) : S34 := ⟨0, 10, false, whole n, []⟩
theorem code_nw (n : Int) (h : -9223372036854775808 ≤ n ∧ n ≤ 9223372036854775807) (w : World) : Calls Tryz.prog 54 #[.int .i64 n] w (Nw w.heap.size w (tC n)) := by
  have hn : spec_Code.f 8 n = some (0, 10, false, whole n, []) := by
    unfold spec_Code.f
    rw [whole_spec n h]
    rfl
  refine (spec_Code.calls 8 n _ _ _ _ _ w hn).mono ?_
  rintro e w' ⟨v3, v4, rfl, h3, h4, hb⟩
  exact nw_of (tC n) h3 (Kd.R_V (base' := 0) (Kd.R_bound h4)) hb (fun _ _ h => h) (fun _ h => h.2.1)
end Go.Proofs.YteockihoefbmdaaGreatDoor.Ber
namespace Go.Proofs.YteockihoefbmdaaGreatDoor.Ber
open Go.RowKit Go.Proofs.YteockihoefbmdaaGreatDoorW.PrintWords Go.Proofs.YteockihoefbmdaaGreatDoor.PFnEncode Go.Proofs.YteockihoefbmdaaGreatDoor.Within Go.Proofs.YteockihoefbmdaaGreatDoor.Tree Go.Proofs.YteockihoefbmdaaGreatDoor.Num Go.Proofs.YteockihoefbmdaaGreatDoor.Ident
set_option linter.unusedVariables false
set_option linter.unusedSimpArgs false
mutual
/-- all data are bytes -/
def inB : S30 → Prop
  | ⟨_, _, _, d, l⟩ => (∀ y ∈ d, 0 ≤ y ∧ y < 256) ∧ inBL l
def inBL : List S30 → Prop
  | [] => True
  | x :: xs => inB x ∧ inBL xs
end
theorem low_in (t : Int) (n : Nat) : ∀ y ∈ low t n, 0 ≤ y ∧ y < 256 := by
  intro y hy
  rw [low, List.mem_map] at hy
  obtain ⟨i, _, rfl⟩ := hy
  cases i with
  | zero => rw [dig]; omega
  | succ i => rw [dig]; omega
theorem identT_in (a b : Int) (c : Bool) (a0 : 0 ≤ a) (a1 : a ≤ 3) (b0 : 0 ≤ b) : ∀ y ∈ identT a b c, 0 ≤ y ∧ y < 256 := by
  intro y hy
  unfold identT cb at hy
  by_cases h : b < 31
  · rw [if_pos h] at hy
    rw [List.mem_singleton.1 hy]
    cases c
    · simp; omega
    · simp; omega
  · rw [if_neg h] at hy
    rcases List.mem_cons.1 hy with rfl | hy
    · cases c
      · simp; omega
      · simp; omega
    · exact low_in _ _ y (List.mem_reverse.1 hy)
theorem lenBytes_in (n : Nat) (hn : n < 256 ^ 8) : ∀ y ∈ lenBytes n, 0 ≤ y ∧ y < 256 := by
  intro y hy
  unfold lenBytes at hy
  by_cases h : n < 128
  · rw [if_pos h] at hy
    rw [List.mem_singleton.1 hy]
    omega
  · rw [if_neg h] at hy
    rcases List.mem_cons.1 hy with rfl | hy
    · have := nd_le 7 n hn
      omega
    · exact be_range _ _ y hy
mutual
theorem bytesT_in : ∀ p : S30, good (mir p) = true → inB p → (bytesT (mir p)).length < 256 ^ 8 → ∀ y ∈ bytesT (mir p), 0 ≤ y ∧ y < 256
  | ⟨a, b, c, d, l⟩, hg, hi, hl => by
    have hgl := goodL_of' hg
    rw [mir, good] at hg
    simp only [Bool.and_eq_true, decide_eq_true_eq] at hg
    obtain ⟨⟨⟨⟨⟨a0, a1⟩, b0⟩, b1⟩, hc⟩, _⟩ := hg
    rw [inB] at hi
    rw [mir, bytesT] at hl ⊢
    have hl2 : (d ++ bytesL (mirL l)).length < 256 ^ 8 := by rw [List.length_append] at hl; omega
    have hl3 : (bytesL (mirL l)).length < 256 ^ 8 := by rw [List.length_append] at hl2; omega
    intro y hy
    rcases List.mem_append.1 hy with hy | hy
    · rcases List.mem_append.1 hy with hy | hy
      · exact identT_in a b c a0 a1 b0 y hy
      · exact lenBytes_in _ hl2 y hy
    · rcases List.mem_append.1 hy with hy | hy
      · exact hi.1 y hy
      · exact bytesL_in l hgl hi.2 hl3 y hy
theorem bytesL_in : ∀ l : List S30, goodL (mirL l) = true → inBL l → (bytesL (mirL l)).length < 256 ^ 8 → ∀ y ∈ bytesL (mirL l), 0 ≤ y ∧ y < 256
  | [], _, _, _ => by rw [mirL, bytesL]; intro y hy; cases hy
  | x :: xs, hg, hi, hl => by
    rw [mirL, goodL, Bool.and_eq_true] at hg
    rw [inBL] at hi
    rw [mirL, bytesL] at hl ⊢
    rw [List.length_append] at hl
    intro y hy
    rcases List.mem_append.1 hy with hy | hy
    · exact bytesT_in x hg.1 hi.1 (by omega) y hy
    · exact bytesL_in xs hg.2 hi.2 (by omega) y hy
theorem goodL_of' {a b : Int} {c : Bool} {d : List Int} {l : List S30} (h : good (mir ⟨a, b, c, d, l⟩) = true) : goodL (mirL l) = true := by
  rw [mir, good] at h
  simp only [Bool.and_eq_true] at h
  exact h.2
end
end Go.Proofs.YteockihoefbmdaaGreatDoor.Ber
namespace Go.Proofs.YteockihoefbmdaaGreatDoor.Ber
open Go.RowKit Go.Proofs.YteockihoefbmdaaGreatDoorW.PrintWords Go.Proofs.YteockihoefbmdaaGreatDoorW.PrintLast Go.Proofs.YteockihoefbmdaaGreatDoor.Buf Go.Proofs.YteockihoefbmdaaGreatDoor.Pk Go.Proofs.YteockihoefbmdaaGreatDoor.Tree Go.Proofs.YteockihoefbmdaaGreatDoor.Num Go.Proofs.YteockihoefbmdaaGreatDoor.Ident Go.Proofs.YteockihoefbmdaaGreatDoor.PFnEncode Go.Proofs.YteockihoefbmdaaGreatDoor.Within
set_option linter.unusedVariables false
set_option linter.unusedSimpArgs false

theorem uv_be (m : Nat) : ∀ x : Int, uv (be x m) = x % 256 ^ m := by
  induction m with
  | zero => intro x; simp [be, uv]
  | succ m ih =>
    intro x
    rw [be_snoc, uv_snoc, ih, Int.pow_succ]
    have h1 := Int.mul_ediv_add_emod (x / 256) (256 ^ m)
    have h2 := Int.mul_ediv_add_emod x (256 ^ m * 256)
    have h3 : x / (256 ^ m * 256) = x / 256 / 256 ^ m := by rw [Int.mul_comm (256 ^ m) 256, Int.ediv_ediv_of_nonneg (by omega)]
    have h4 := Int.mul_ediv_add_emod x 256
    rw [h3] at h2
    have h5 : 256 ^ m * 256 * (x / 256 / 256 ^ m) = 256 * (256 ^ m * (x / 256 / 256 ^ m)) := by rw [Int.mul_comm (256 ^ m) 256, Int.mul_assoc]
    omega

theorem wl_in (k : Nat) : ∀ n : Int, -(128 * 256 ^ k) ≤ n → n < 128 * 256 ^ k → -(128 * 256 ^ (wl n - 1)) ≤ n ∧ n < 128 * 256 ^ (wl n - 1) := by
  induction k with
  | zero =>
    intro n h0 h1
    rw [wl_small (by omega)]
    simp only [Nat.sub_self, Int.pow_zero]
    omega
  | succ k ih =>
    intro n h0 h1
    by_cases hs : -128 ≤ n ∧ n ≤ 127
    · rw [wl_small hs]
      simp only [Nat.sub_self, Int.pow_zero]
      omega
    · rw [wl_great hs]
      rw [Int.pow_succ] at h0 h1
      have := ih (n / 256) (by omega) (by omega)
      have hp := wl_pos (n / 256)
      have e : wl (n / 256) + 1 - 1 = (wl (n / 256) - 1) + 1 := by omega
      rw [e, Int.pow_succ]
      omega

theorem sv_whole (n : Int) (h : -9223372036854775808 ≤ n ∧ n ≤ 9223372036854775807) : sv (whole n) = n := by
  have hi := wl_in 7 n (by omega) (by omega)
  have hp := wl_pos n
  unfold sv whole
  rw [uv_be, be_length]
  obtain ⟨m, hm⟩ : ∃ m, wl n = m + 1 := ⟨wl n - 1, by omega⟩
  rw [hm] at hi ⊢
  simp only [Nat.add_sub_cancel] at hi ⊢
  rw [Int.pow_succ]
  have hpos : (0 : Int) < 256 ^ m := Int.pow_pos (by omega)
  obtain ⟨M, hM⟩ : ∃ M : Int, M = 256 ^ m := ⟨_, rfl⟩
  rw [← hM] at hi hpos ⊢
  clear hM hm
  by_cases h0 : 0 ≤ n
  · rw [Int.emod_eq_of_lt h0 (by omega), if_pos (by omega)]
  · have e : n % (M * 256) = n + M * 256 := by rw [← Int.add_emod_right, Int.emod_eq_of_lt (by omega) (by omega)]
    rw [e, if_neg (by omega)]
    omega

theorem so_bo (s : ByteArray) : strOfNums (bytesOf s) = s := by
  obtain ⟨⟨l⟩⟩ := s
  unfold strOfNums bytesOf
  simp only [List.map_map]
  have e : ((fun n : Int => UInt8.ofNat n.toNat) ∘ fun b : UInt8 => (b.toNat : Int)) = id := by
    funext b
    simp
  rw [e, List.map_id]
theorem bo_in (s : ByteArray) : ∀ y ∈ bytesOf s, 0 ≤ y ∧ y < 256 := by
  intro y hy
  unfold bytesOf at hy
  obtain ⟨b, _, rfl⟩ := List.mem_map.1 hy
  have := b.toNat_lt
  omega
theorem whole_in (n : Int) : ∀ y ∈ whole n, 0 ≤ y ∧ y < 256 := fun y hy => by
  unfold whole at hy
  exact be_range _ _ y hy
theorem whole_lens (n : Int) (h : -9223372036854775808 ≤ n ∧ n ≤ 9223372036854775807) : 1 ≤ (whole n).length ∧ (whole n).length ≤ 8 := by
  have h1 := wl_le8 n h
  have h2 := wl_pos n
  rw [whole, be_length]
  exact ⟨h2, h1⟩
/-- a packet of the reference that the package's decoder reads -/
structure Fine5 (x : S34) : Prop where
  g : good x = true
  t : tsize x ≤ 10000
  d : dpx x ≤ 1000
  k : kp x
  i : inB (pl x)
end Go.Proofs.YteockihoefbmdaaGreatDoor.Ber
namespace Go.Proofs.YteockihoefbmdaaGreatDoor.Ber
open Go.RowKit Go.Proofs.YteockihoefbmdaaGreatDoorW.PrintWords Go.Proofs.YteockihoefbmdaaGreatDoorW.PrintLast Go.Proofs.YteockihoefbmdaaGreatDoor.Buf Go.Proofs.YteockihoefbmdaaGreatDoor.Pk Go.Proofs.YteockihoefbmdaaGreatDoor.Tree Go.Proofs.YteockihoefbmdaaGreatDoor.Num Go.Proofs.YteockihoefbmdaaGreatDoor.Ident Go.Proofs.YteockihoefbmdaaGreatDoor.PFnEncode Go.Proofs.YteockihoefbmdaaGreatDoor.Within
set_option linter.unusedVariables false
set_option linter.unusedSimpArgs false

theorem eof_below {w W : World} {va ua : Addr} (h : EofAt w va ua) (hb : Below w.heap.size w W) : EofAt W va ua := h.keep (S := fun _ => True) h.lt hb.block
theorem read_pl (x : S34) (F : Fine5 x) (W0 W : World) (A3 : Option Addr) (c3 : Nat) (A4 : Option Addr) (c4 : Nat) (h3 : B8.C W0 A3 x.f3.length x.f3) (h4 : k30.C W0 A4 (plL x.f4).length (plL x.f4)) (hb : Below W0.heap.size W0 W) (va ua : Addr) (hE : EofAt W va ua) :
    Calls Tryz.prog 30 #[.agg #[.int .i64 x.f0, .int .i64 x.f1, .bool x.f2, .slice A3 x.f3.length c3, .slice A4 (plL x.f4).length c4]] W fun e w' => ∃ b, e = .returned (.pointer (some ⟨b, 0, none⟩)) ∧ Pt w' b (rdPk x) ∧ Below W.heap.size W w' := by
  have hl : (bytesT x).length ≤ 14 * tsize x := bytesT_le x F.g (by have := F.t; omega)
  have ht := F.t
  have key := read_any W0 (pl x) A3 c3 A4 c4 W (by rw [mir_pl]; exact F.g) (by rw [mir_pl]; omega) (by rw [mir_pl]; exact F.k) (by rw [mir_pl]; exact F.d) (by rw [pl_f3]; exact h3) (by rw [pl_f4]; exact h4) hb va ua hE (by rw [mir_pl]; omega)
    (by
      have := bytesT_in (pl x) (by rw [mir_pl]; exact F.g) F.i (by rw [mir_pl]; exact Nat.lt_of_le_of_lt hl (by omega))
      exact this)
  rw [pl_f0, pl_f1, pl_f2, pl_f3, pl_f4, mir_pl] at key
  refine key.mono ?_
  rintro e w' ⟨b, he, hI, hB⟩
  exact ⟨b, he, pt_of hI, hB⟩
end Go.Proofs.YteockihoefbmdaaGreatDoor.Ber
namespace Go.Proofs.YteockihoefbmdaaGreatDoor.Ber
open Go.RowKit Go.Proofs.YteockihoefbmdaaGreatDoorW.PrintWords Go.Proofs.YteockihoefbmdaaGreatDoorW.PrintLast Go.Proofs.YteockihoefbmdaaGreatDoor.Buf Go.Proofs.YteockihoefbmdaaGreatDoor.Pk Go.Proofs.YteockihoefbmdaaGreatDoor.Tree Go.Proofs.YteockihoefbmdaaGreatDoor.Num Go.Proofs.YteockihoefbmdaaGreatDoor.Ident Go.Proofs.YteockihoefbmdaaGreatDoor.PFnEncode
set_option linter.unusedVariables false
set_option linter.unusedSimpArgs false

/-- a message whose operation is a result -/
structure IsRes (x r c0 c1 c2 : Pk) (code : Int) (ma me : ByteArray) : Prop where
  k1 : x.kids[1]? = some r
  n2 : 2 ≤ x.kids.length
  nx : x.kids.length ≤ 1000000
  cl : r.cls = 64
  ty : r.typ = 32
  r0 : r.kids[0]? = some c0
  r1 : r.kids[1]? = some c1
  r2 : r.kids[2]? = some c2
  nr : r.kids.length ≤ 1000000
  t0 : c0.tag = 10
  t1 : c1.tag = 4
  t2 : c2.tag = 4
  v0 : c0.val = .iface 2 (.int .i64 code)
  v1 : c1.val = strV ma
  v2 : c2.val = strV me
theorem two_blk (w : World) (o1 o2 : Obj) : ((w.alloc o1).alloc o2).heap[w.heap.size + 1]? = some o2 := by
  have := blk_new (w.alloc o1) o2
  simpa using this
theorem IsRes.n3 {x r c0 c1 c2 : Pk} {code : Int} {ma me : ByteArray} (R : IsRes x r c0 c1 c2 code ma me) : 3 ≤ r.kids.length := (List.getElem?_eq_some_iff.1 R.r2).1
set_option maxHeartbeats 3200000 in
set_option maxRecDepth 100000 in
theorem getErr_ok {w : World} {b : Nat} {x r c0 c1 c2 : Pk} {ma me : ByteArray} (h : Pt w b x) (R : IsRes x r c0 c1 c2 0 ma me) :
    Calls Tryz.prog 58 #[.pointer (some ⟨b, 0, none⟩)] w fun e w' => e = .returned .nilIface ∧ w = w' := by
  obtain ⟨code, hcode⟩ : ∃ code : Int, code = 0 := ⟨_, rfl⟩
  rw [← hcode] at R
  have HC1 : Hid (∀ s : ByteArray, Calls Tryz.prog 77 #[.pointer (some ⟨b, 0, none⟩), .int .i64 2, .int .i64 (-1), .string s] w fun e w' => ∃ A c, e = .returned (.tuple #[.slice A x.kids.length c, .nilIface]) ∧ w.cell? ⟨b, 6, none⟩ = some (.slice A x.kids.length c) ∧ w = w') := Lib.hid (fun s => count_low h 2 s (by decide) (by have := R.n2; omega) R.nx)
  have HK1 : Hid (Calls Tryz.prog 78 #[.pointer (some ⟨b, 0, none⟩), .int .i64 1] w fun e w' => ∃ q, e = .returned (.tuple #[.pointer (some ⟨q, 0, none⟩), .nilIface]) ∧ Pt w q r ∧ w = w') := Lib.hid (child_any h 1 R.k1 R.nx)
  have HR : Hid (∀ q, Pt w q r → (w.cell? ⟨q, 0, none⟩ = some (.int .u8 64) ∧ w.cell? ⟨q, 1, none⟩ = some (.int .u8 32)) ∧ (∀ s : ByteArray, Calls Tryz.prog 77 #[.pointer (some ⟨q, 0, none⟩), .int .i64 3, .int .i64 (-1), .string s] w fun e w' => ∃ A c, e = .returned (.tuple #[.slice A r.kids.length c, .nilIface]) ∧ w.cell? ⟨q, 6, none⟩ = some (.slice A r.kids.length c) ∧ w = w') ∧ (Calls Tryz.prog 78 #[.pointer (some ⟨q, 0, none⟩), .int .i64 0] w fun e w' => ∃ q, e = .returned (.tuple #[.pointer (some ⟨q, 0, none⟩), .nilIface]) ∧ Pt w q c0 ∧ w = w') ∧ (Calls Tryz.prog 78 #[.pointer (some ⟨q, 0, none⟩), .int .i64 1] w fun e w' => ∃ q, e = .returned (.tuple #[.pointer (some ⟨q, 0, none⟩), .nilIface]) ∧ Pt w q c1 ∧ w = w') ∧ (Calls Tryz.prog 78 #[.pointer (some ⟨q, 0, none⟩), .int .i64 2] w fun e w' => ∃ q, e = .returned (.tuple #[.pointer (some ⟨q, 0, none⟩), .nilIface]) ∧ Pt w q c2 ∧ w = w')) := Lib.hid (fun q hq => by
    have hn3 := R.n3
    obtain ⟨a0, a1, _⟩ := pt_top hq
    rw [R.cl] at a0
    rw [R.ty] at a1
    exact ⟨⟨a0, a1⟩, fun s => count_low hq 3 s (by decide) (by omega) R.nr, child_any hq 0 R.r0 R.nr, child_any hq 1 R.r1 R.nr, child_any hq 2 R.r2 R.nr⟩)
  have H0 : Hid (∀ q, Pt w q c0 → w.cell? ⟨q, 2, none⟩ = some (.int .u64 10) ∧ Calls Tryz.prog 101 #[.pointer (some ⟨q, 0, none⟩)] w fun e w' => e = .returned (.tuple #[.int .u16 code, .nilIface]) ∧ w = w') := Lib.hid (fun q hq => by
    obtain ⟨_, _, a2, _⟩ := pt_top hq
    rw [R.t0] at a2
    exact ⟨a2, pcode_any hq code R.v0 (by omega) (by omega)⟩)
  have hce : (code == 0) = true := by simp [hcode]
  clear h R hcode
  go_enter Tryz.func58, Tryz.ntmps58
  go_wp2_with (first
    | (go_at_call 77
       first
       | (with_reducible refine (HC1.out _).mono ?_
          rintro e w1 ⟨A1, n1, rfl, c61, rfl⟩)
       | (with_reducible refine (HQ1.out.2.1 _).mono ?_
          rintro e w1 ⟨A2, n2, rfl, c62, rfl⟩))
    | (go_at_call 78
       first
       | (with_reducible refine HK1.out.mono ?_
          rintro e w1 ⟨qr, rfl, hqr, rfl⟩
          have HQ1 := Lib.hid (HR.out qr hqr)
          obtain ⟨ra0, ra1⟩ := HQ1.out.1
          clear hqr)
       | (with_reducible refine HQ1.out.2.2.1.mono ?_
          rintro e w1 ⟨q0, rfl, hq0, rfl⟩
          have HQ0 := Lib.hid (H0.out q0 hq0).2
          have z2 := (H0.out q0 hq0).1
          clear hq0))
    | (go_at_call 101
       with_reducible refine HQ0.out.mono ?_
       rintro e w1 ⟨rfl, rfl⟩))
  go_ret
  exact ⟨rfl, rfl⟩
end Go.Proofs.YteockihoefbmdaaGreatDoor.Ber
namespace Go.Proofs.YteockihoefbmdaaGreatDoor.Ber
open Go.RowKit Go.Proofs.YteockihoefbmdaaGreatDoorW.PrintWords Go.Proofs.YteockihoefbmdaaGreatDoorW.PrintLast Go.Proofs.YteockihoefbmdaaGreatDoor.Buf Go.Proofs.YteockihoefbmdaaGreatDoor.Pk Go.Proofs.YteockihoefbmdaaGreatDoor.Tree Go.Proofs.YteockihoefbmdaaGreatDoor.Num Go.Proofs.YteockihoefbmdaaGreatDoor.Ident Go.Proofs.YteockihoefbmdaaGreatDoor.PFnEncode
set_option linter.unusedVariables false
set_option linter.unusedSimpArgs false

set_option maxHeartbeats 3200000 in
set_option maxRecDepth 100000 in
theorem pdata_any {w : World} {b : Nat} {x : Pk} (h : Pt w b x) :
    Calls Tryz.prog 84 #[.pointer (some ⟨b, 0, none⟩)] w fun e w' => ∃ A c, e = .returned (.tuple #[.slice A x.data.length c, .nilIface]) ∧ B8.C w' A x.data.length x.data ∧ Below w.heap.size w w' := by
  obtain ⟨db, v, bv, cv, P⟩ := parts_of h
  have c5 : w.cell? ⟨b, 5, none⟩ = some (.pointer (some ⟨db, 0, none⟩)) := P.cell 5
  have HBY := Lib.hid (Tryz.Buffer_Bytes 0 db (nums .u8 x.data) w P.buf.shelf)
  clear h P
  go_enter Tryz.func84, Tryz.ntmps84
  go_wp2_with (go_at_call 33
               with_reducible refine HBY.out.mono ?_
               rintro e W2 ⟨v2, rfl, hv2, n2, hW2⟩
               rw [nums_length] at hv2
               obtain ⟨A2, d2, rfl, hl2, hc2, _⟩ := own_row_parts hv2
               have hB2 : Below w.heap.size w W2 := hW2 ▸ pw_below_drewN (Below.refl _ w) n2
               have HC2 := Lib.hid hc2
               have HB2 := Lib.hid hB2
               clear hv2 hW2 hl2 hc2 hB2)
  go_ret2
  exact ⟨A2, d2, rfl, HC2.out, HB2.out⟩
/-- a message that answers an extended request -/
structure IsExt (x r c0 c1 c2 c3 : Pk) (l : List Pk) (nm : ByteArray) : Prop where
  R : IsRes x r c0 c1 c2 0 ⟨#[]⟩ ⟨#[]⟩
  kk : r.kids = [c0, c1, c2, c3] ++ l
  x2 : x.kids.length = 2
  z0 : c0.cls = 0
  z1 : c1.cls = 0
  z2 : c2.cls = 0
  k3 : c3.cls = 128
  t3 : c3.tag = 10
  d3 : c3.data = bytesOf nm
  kl : ∀ c ∈ l, c.cls = 128 ∧ c.tag = 11
  ll : l.length ≤ 1
/-- what lies in the response behind n packets -/
def AtX (w W : World) (g s0 : Nat) (l : List Pk) (nm : ByteArray) (k : Nat) : Prop :=
  Below w.heap.size w W ∧ ∃ s pv, W.heap[g]? = some (.cells #[.string s, pv, .slice (some ⟨s0, 0, none⟩) 0 0] 130 (0, 0)) ∧ (4 ≤ k → s = nm) ∧ (k ≤ 4 → pv = .pointer none) ∧ (5 ≤ k → ∀ c, l = [c] → ∃ q, pv = .pointer (some ⟨q, 0, none⟩) ∧ Pt W q c)
theorem AtX.step {w W W' : World} {g s0 : Nat} {l : List Pk} {nm : ByteArray} {k k' : Nat} (h : AtX w W g s0 l nm k) (hb : Below W.heap.size W W') (hk : k ≤ k') (h3 : k' ≤ 3 ∨ k' = k) : AtX w W' g s0 l nm k' := by
  obtain ⟨hB, s, pv, hg, h1, h2, h4⟩ := h
  refine ⟨hB.trans (hb.mono hB.size), s, pv, blk_below hg hb, fun h => ?_, fun h => h2 (by omega), fun h c hc => ?_⟩
  · rcases h3 with h3 | h3
    · omega
    · exact h1 (by omega)
  · rcases h3 with h3 | h3
    · omega
    · obtain ⟨q, e, hq⟩ := h4 (by omega) c hc
      exact ⟨q, e, hq.below hb⟩
theorem mk_ctl0 : ∀ w : World, (Instr.makeSlice 128 (.int .i64 0) (.int .i64 0)).run Tryz.prog w = .ok (.slice (some ⟨w.heap.size, 0, none⟩) 0 0) (w.alloc (.cells #[] 96)) := fun _ => by kernel_rfl
set_option maxHeartbeats 3200000 in
set_option maxRecDepth 100000 in
theorem decExt {w : World} {b : Nat} {x r c0 c1 c2 c3 : Pk} {l : List Pk} {nm : ByteArray} (h : Pt w b x) (E : IsExt x r c0 c1 c2 c3 l nm) :
    Calls Tryz.prog 64 #[.pointer (some ⟨b, 0, none⟩)] w fun e w' => ∃ g s0, e = .returned (.tuple #[.pointer (some ⟨g, 0, none⟩), .nilIface]) ∧ AtX w w' g s0 l nm (4 + l.length) := by
  have hmk := mk_ctl0
  have HGE := Lib.hid (getErr_ok h E.R)
  have hn : r.kids.length = 4 + l.length := by rw [E.kk, List.length_append]; rfl
  have HK1 : Hid (Calls Tryz.prog 78 #[.pointer (some ⟨b, 0, none⟩), .int .i64 1] w fun e w' => ∃ q, e = .returned (.tuple #[.pointer (some ⟨q, 0, none⟩), .nilIface]) ∧ Pt w q r ∧ w = w') := Lib.hid (child_any h 1 E.R.k1 E.R.nx)
  have HCN : Hid (∀ q, Pt w q r → ∀ s : ByteArray, Calls Tryz.prog 77 #[.pointer (some ⟨q, 0, none⟩), .int .i64 3, .int .i64 (-1), .string s] w fun e w' => ∃ A c, e = .returned (.tuple #[.slice A r.kids.length c, .nilIface]) ∧ (w.cell? ⟨q, 6, none⟩ = some (.slice A r.kids.length c) ∧ (∀ o, (w.alloc o).cell? ⟨q, 6, none⟩ = some (.slice A r.kids.length c)) ∧ (∀ o o', ((w.alloc o).alloc o').cell? ⟨q, 6, none⟩ = some (.slice A r.kids.length c))) ∧ w = w') := Lib.hid (fun q hq s => by
    refine (count_low hq 3 s (by decide) (by omega) E.R.nr).mono ?_
    rintro e w' ⟨A, c, he, hc, hw⟩
    have hlt : q < w.heap.size := World.block_lt_of_cell? w _ hc
    have ha : ∀ o, (w.alloc o).cell? ⟨q, 6, none⟩ = some (.slice A r.kids.length c) := fun o => (World.cell?_of_block (a := ⟨q, 6, none⟩) (Below.heap_alloc w o q hlt)).trans hc
    exact ⟨A, c, he, ⟨hc, ha, fun o o' => (World.cell?_of_block (a := ⟨q, 6, none⟩) (Below.heap_alloc (w.alloc o) o' q (Nat.lt_of_lt_of_le hlt (by simp)))).trans (ha o)⟩, hw⟩)
  have HOP : Hid (∀ W, Pt W b x → Calls Tryz.prog 110 #[.pointer (some ⟨b, 0, none⟩), .int .i64 2] W fun e w' => e = .returned (.tuple #[.pointer none, .bool false, .nilIface]) ∧ W = w') := Lib.hid (fun W hW => childOpt_none hW 2 (by have := E.x2; omega) (by decide))
  have HX := Lib.hid h
  have HE := Lib.hid E
  obtain ⟨n, hnn⟩ : ∃ n, n = r.kids.length := ⟨_, rfl⟩
  rw [← hnn] at hn
  have HNN := Lib.hid hnn
  rw [← hnn] at HCN
  have hnb : n ≤ 5 := by have := E.ll; omega
  have HNL := Lib.hid hn
  clear h E hnn hn
  go_enter Tryz.func64, Tryz.ntmps64
  go_wp2_with (first
    | (go_at_call 58
       with_reducible refine HGE.out.mono ?_
       rintro e w1 ⟨rfl, rfl⟩)
    | (go_at_call 78
       with_reducible refine HK1.out.mono ?_
       rintro e w1 ⟨qr, rfl, hqr, rfl⟩
       have HQR := Lib.hid hqr
       have HC1 := Lib.hid (HCN.out qr hqr)
       clear hqr)
    | (go_at_call 77
       with_reducible refine (HC1.out _).mono ?_
       rintro e w1 ⟨A6, n6, rfl, ⟨c6, c6a, c6b⟩, rfl⟩
       have HC6 := Lib.hid c6))
  obtain ⟨W1, hW1⟩ : ∃ W1, W1 = (w.alloc (.cells #[] 96)).alloc (.cells #[.string ⟨#[]⟩, .pointer none, .slice (some ⟨w.heap.size, 0, none⟩) 0 0] 130) := ⟨_, rfl⟩
  rw [← hW1]
  have hb1 : Below w.heap.size w W1 := by rw [hW1]; exact below_alloc (below_alloc (Below.refl _ _) _) _
  have hg1 : W1.heap[w.heap.size + 1]? = some (.cells #[.string ⟨#[]⟩, .pointer none, .slice (some ⟨w.heap.size, 0, none⟩) 0 0] 130 (0, 0)) := by rw [hW1]; exact two_blk _ _ _
  obtain ⟨g, hg⟩ : ∃ g, g = w.heap.size + 1 := ⟨_, rfl⟩
  obtain ⟨s0, hs0⟩ : ∃ s0, s0 = w.heap.size := ⟨_, rfl⟩
  rw [← hg, ← hs0] at hg1
  have HA1 : Hid (AtX w W1 g s0 l nm 0) := Lib.hid ⟨hb1, ⟨#[]⟩, .pointer none, hg1, fun h => absurd h (by decide), fun _ => rfl, fun h => absurd h (by decide)⟩
  have HGW : Hid (w.heap.size ≤ g) := Lib.hid (by omega)
  try rw [← hg]
  clear hW1 hb1 hg1 c6 c6a c6b
  clear hg hs0
  go_loopw [49] (fun i wr => ∃ k : Nat, i = .int .i64 k ∧ k ≤ n ∧ Hid (AtX w wr g s0 l nm k)) (fun i _ => n - (intOf i).toNat)
  case atStart => exact ⟨0, rfl, Nat.zero_le _, HA1⟩
  case round =>
    obtain ⟨k, rfl, hk, HI⟩ := hrel
    by_cases hlt : k < n
    · obtain ⟨ad, cap, q, e6, eqw, hqw⟩ := pt_kid HQR.out (k := k) (by rw [← HNN.out]; exact hlt)
      have e6' : some (Value.slice (some ⟨ad, 0, none⟩) r.kids.length cap) = some (Value.slice A6 n n6) := e6.symm.trans HC6.out
      have eq : wr.cell? ⟨ad, k, none⟩ = some (.pointer (some ⟨q, 0, none⟩)) := (World.cell?_of_block (a := ⟨ad, k, none⟩) (HI.out.1.block _ (World.block_lt_of_cell? w _ eqw))).trans eqw
      have hq := hqw.below HI.out.1
      have eA : A6 = some ⟨ad, 0, none⟩ := by
        injection e6' with e6'
        injection e6' with e1 e2 e3
        exact e1.symm
      subst eA
      obtain ⟨s, pv, hg, h1, h2, h4⟩ := HI.out.2
      have hc : (k < 3 ∧ (r.kids[k]'(by rw [← HNN.out]; exact hlt)).cls = 0) ∨ (k = 3 ∧ r.kids[k]'(by rw [← HNN.out]; exact hlt) = c3) ∨ (k = 4 ∧ ∃ c, l = [c] ∧ r.kids[k]'(by rw [← HNN.out]; exact hlt) = c) := by
        have hE := HE.out
        have hnl := HNL.out
        have hll := hE.ll
        rcases l with _ | ⟨c, _ | ⟨c', l⟩⟩
        · simp only [hE.kk]
          rcases k with _ | _ | _ | _ | k
          · exact .inl ⟨by omega, hE.z0⟩
          · exact .inl ⟨by omega, hE.z1⟩
          · exact .inl ⟨by omega, hE.z2⟩
          · exact .inr (.inl ⟨rfl, rfl⟩)
          · simp at hnl
            omega
        · simp only [hE.kk]
          rcases k with _ | _ | _ | _ | _ | k
          · exact .inl ⟨by omega, hE.z0⟩
          · exact .inl ⟨by omega, hE.z1⟩
          · exact .inl ⟨by omega, hE.z2⟩
          · exact .inr (.inl ⟨rfl, rfl⟩)
          · exact .inr (.inr ⟨rfl, c, rfl, rfl⟩)
          · simp at hnl
            omega
        · simp at hll
      obtain ⟨q0, _, q2, _⟩ := pt_top hq
      rcases hc with ⟨h3, hz⟩ | ⟨rfl, hz⟩ | ⟨rfl, c, hlc, hz⟩
      · rw [hz] at q0
        clear e6 e6' eqw hqw hq q2 hz hg h1 h2 h4
        go_wp2
        exact ⟨⟨k + 1, by first | rfl | go_num, hlt, Lib.hid (HI.out.step (Below.refl _ _) (by omega) (by omega))⟩, by simp [intOf]; omega⟩
      · rw [hz] at q0 q2 hq
        rw [HE.out.k3] at q0
        rw [HE.out.t3] at q2
        have hpv : pv = .pointer none := h2 (by decide)
        subst hpv
        have HPD := Lib.hid (pdata_any hq)
        have HG := Lib.hid hg
        have HD : Hid (c3.data = bytesOf nm) := Lib.hid HE.out.d3
        clear e6 e6' eqw hqw hq hz hg h1 h2 h4
        go_wp2_with (go_at_call 84
                     with_reducible refine HPD.out.mono ?_
                     rintro e W2 ⟨A, c, rfl, hC, hB⟩
                     rw [HD.out] at hC ⊢
                     have hcv : (convert 22 9 (.slice A (bytesOf nm).length c)).run Tryz.prog W2 = .ok (.string nm) W2 := by
                       have := Kd.C_string Tryz.underlying22 Tryz.underlying5 Tryz.underlying9 (c := c) hC
                       rw [so_bo] at this
                       exact this
                     have hg2 := blk_below HG.out hB
                     have k0 : W2.cell? ⟨g, 0, none⟩ = some (.string s) := blk_cell hg2 0
                     have kf0 := blk_frozen hg2 0
                     have HG2 := Lib.hid hg2
                     have HB2 := Lib.hid (HI.out.1.trans (hB.mono HI.out.1.size))
                     clear hC hB hg2)
        exact ⟨⟨4, by first | rfl | go_num, hlt, Lib.hid ⟨HB2.out.setCell (p := ⟨g, 0, none⟩) HGW.out _, nm, .pointer none, blk_set HG2.out 0 _, fun _ => rfl, fun _ => rfl, fun h => absurd h (by decide)⟩⟩, by simp [intOf]; omega⟩
      · rw [hz] at q0 q2 hq
        obtain ⟨kc, kt⟩ := HE.out.kl c (by rw [hlc]; exact List.mem_cons_self)
        rw [kc] at q0
        rw [kt] at q2
        have HNM : Hid (s = nm) := Lib.hid (h1 (by decide))
        have hpv : pv = .pointer none := h2 (by decide)
        subst hpv
        have HG := Lib.hid hg
        have HQ := Lib.hid hq
        have HLC := Lib.hid hlc
        have k1 : wr.cell? ⟨g, 1, none⟩ = some (.pointer none) := blk_cell hg 1
        have kf1 := blk_frozen hg 1
        have HQG : Hid (∀ u, Pt (wr.setCell ⟨g, 1, none⟩ u) q c) := Lib.hid (fun u => by
          rw [hz] at hqw
          exact hqw.below (HI.out.1.setCell (p := ⟨g, 1, none⟩) HGW.out u))
        clear e6 e6' eqw hqw hq hz hg h1 h2 h4 kc kt hlc
        go_wp2
        exact ⟨⟨5, by first | rfl | go_num, hlt, Lib.hid ⟨HI.out.1.setCell (p := ⟨g, 1, none⟩) HGW.out _, s, .pointer (some ⟨q, 0, none⟩), blk_set HG.out 1 _, fun _ => HNM.out, fun h => absurd h (by decide), fun _ c' hc' => ⟨q, rfl, by
          have : c' = c := by rw [HLC.out] at hc'; simpa using hc'.symm
          rw [this]
          exact HQG.out _⟩⟩⟩, by simp [intOf]; omega⟩
    · obtain rfl : k = n := by omega
      have HPX := Lib.hid (HOP.out wr (HX.out.below HI.out.1))
      go_wp2_with (go_at_call 110
                   with_reducible refine HPX.out.mono ?_
                   rintro e w1 ⟨rfl, rfl⟩)
      go_ret2
      exact ⟨g, s0, rfl, by rw [← HNL.out]; exact HI.out⟩
set_option maxHeartbeats 3200000 in
set_option maxRecDepth 100000 in
theorem extOf {w : World} {b : Nat} {x r c0 c1 c2 c3 : Pk} {l : List Pk} {nm : ByteArray} (h : Pt w b x) (E : IsExt x r c0 c1 c2 c3 l nm) :
    Calls Tryz.prog 31 #[.pointer (some ⟨b, 0, none⟩)] w fun e w' => ∃ pv, e = .returned (.tuple #[.string nm, pv, .bool true]) ∧ Below w.heap.size w w' ∧ (l = [] → pv = .pointer none) ∧ (∀ c, l = [c] → ∃ q, pv = .pointer (some ⟨q, 0, none⟩) ∧ Pt w' q c) := by
  have HD := Lib.hid (decExt h E)
  clear h E
  go_enter Tryz.func31, Tryz.ntmps31
  go_wp2_with (go_at_call 64
               with_reducible refine HD.out.mono ?_
               rintro e W1 ⟨g, s0, rfl, hB, nm', pv, hg, h1, h2, h4⟩
               obtain rfl : nm = nm' := (h1 (by omega)).symm
               have HB := Lib.hid hB
               have HG := Lib.hid hg
               have H2 := Lib.hid h2
               have H4 := Lib.hid h4
               clear hB hg h1 h2 h4)
  refine start_ (n := 11) (S := fun w' => w'.cell? ⟨g, 0, none⟩ = some (.string nm) ∧ w'.cell? ⟨g, 1, none⟩ = some pv) (ds := []) #[nN,nN,nN,nN,nN,nN,nN,nN,nN,nN,nN] (by kernel_rfl) rfl rfl ⟨blk_cell HG.out 0, blk_cell HG.out 1⟩ (fun hHeld => ?_)
  refine pure_ (i := 0) (N := some 14) (v := ?_) (a' := ?_) #[yY,nN,nN,nN,nN,nN,nN,nN,nN,nN,nN] rfl rfl (by kernel_rfl) (fun _ _ _ h => h) (Or.inl ⟨by rfl, ?_⟩) ?_ ?_
  rotate_left
  · intro w'
    go_simp
    with_reducible rfl
  rotate_left
  · simp only [Act.put, List.setIfInBounds_toArray, List.set_cons_zero, List.set_cons_succ, i64_w, i32_w]
    rfl
  refine pure_ (i := 1) (N := some 15) (v := ?_) (a' := ?_) #[yY,yY,nN,nN,nN,nN,nN,nN,nN,nN,nN] rfl rfl (by kernel_rfl) (fun _ _ _ h => h) (Or.inl ⟨by rfl, ?_⟩) ?_ ?_
  rotate_left
  · intro w'
    go_simp
    with_reducible rfl
  rotate_left
  · simp only [Act.put, List.setIfInBounds_toArray, List.set_cons_zero, List.set_cons_succ, i64_w, i32_w]
    rfl
  refine pure_ (i := 2) (N := some 16) (v := ?_) (a' := ?_) #[yY,yY,yY,nN,nN,nN,nN,nN,nN,nN,nN] rfl rfl (by kernel_rfl) (fun _ _ _ h => h) (Or.inl ⟨by rfl, ?_⟩) ?_ ?_
  rotate_left
  · intro w'
    go_simp
    with_reducible rfl
  rotate_left
  · simp only [Act.put, List.setIfInBounds_toArray, List.set_cons_zero, List.set_cons_succ, i64_w, i32_w]
    rfl
  refine pure_ (i := 4) (N := some 18) (v := ?_) (a' := ?_) #[yY,yY,yY,nN,yY,nN,nN,nN,nN,nN,nN] rfl rfl (by kernel_rfl) (fun _ _ _ h => h) (Or.inl ⟨by rfl, ?_⟩) ?_ ?_
  rotate_left
  · intro w'
    go_simp
    with_reducible rfl
  rotate_left
  · simp only [Act.put, List.setIfInBounds_toArray, List.set_cons_zero, List.set_cons_succ, i64_w, i32_w]
    rfl
  refine pure_ (i := 5) (N := some 19) (v := ?_) (a' := ?_) #[yY,yY,yY,nN,yY,yY,nN,nN,nN,nN,nN] rfl rfl (by kernel_rfl) (fun _ _ _ h => h) (Or.inl ⟨by rfl, ?_⟩) ?_ ?_
  rotate_left
  · intro w'
    go_simp
    with_reducible rfl
  rotate_left
  · simp only [Act.put, List.setIfInBounds_toArray, List.set_cons_zero, List.set_cons_succ, i64_w, i32_w]
    rfl
  refine pure_ (i := 6) (N := some 20) (v := ?_) (a' := ?_) #[yY,yY,yY,nN,yY,yY,yY,nN,nN,nN,nN] rfl rfl (by kernel_rfl) (fun _ _ _ h => h) (Or.inl ⟨by rfl, ?_⟩) ?_ ?_
  rotate_left
  · intro w'
    go_simp
    with_reducible rfl
  rotate_left
  · simp only [Act.put, List.setIfInBounds_toArray, List.set_cons_zero, List.set_cons_succ, i64_w, i32_w]
    rfl
  refine take_ (i := 3) (N := some 17) (v := ?_) (a' := ?_) #[yY,yY,yY,yY,yY,yY,yY,nN,nN,nN,nN] rfl rfl (by kernel_rfl) (fun _ _ _ h => h) (Or.inl ⟨by rfl, ?_⟩) hHeld ?_ ?_
  rotate_left
  · rintro w' ⟨s0, s1⟩
    go_simp
    with_reducible rfl
  rotate_left
  · simp only [Act.put, List.setIfInBounds_toArray, List.set_cons_zero, List.set_cons_succ, i64_w, i32_w]
    rfl
  refine pure_ (i := 8) (N := some 2) (v := ?_) (a' := ?_) #[yY,yY,yY,yY,yY,yY,yY,nN,yY,nN,nN] rfl rfl (by kernel_rfl) (fun _ _ _ h => h) (Or.inl ⟨by rfl, ?_⟩) ?_ ?_
  rotate_left
  · intro w'
    go_simp
    with_reducible rfl
  rotate_left
  · simp only [Act.put, List.setIfInBounds_toArray, List.set_cons_zero, List.set_cons_succ, i64_w, i32_w]
    rfl
  refine take_ (i := 7) (N := some 21) (v := ?_) (a' := ?_) #[yY,yY,yY,yY,yY,yY,yY,yY,yY,nN,nN] rfl rfl (by kernel_rfl) (fun _ _ _ h => h) (Or.inl ⟨by rfl, ?_⟩) hHeld ?_ ?_
  rotate_left
  · rintro w' ⟨s0, s1⟩
    go_simp
    with_reducible rfl
  rotate_left
  · simp only [Act.put, List.setIfInBounds_toArray, List.set_cons_zero, List.set_cons_succ, i64_w, i32_w]
    rfl
  refine pure_ (i := 9) (N := some 3) (v := ?_) (a' := ?_) #[yY,yY,yY,yY,yY,yY,yY,yY,yY,yY,nN] rfl rfl (by kernel_rfl) (fun _ _ _ h => h) (Or.inl ⟨by rfl, ?_⟩) ?_ ?_
  rotate_left
  · intro w'
    go_simp
    with_reducible rfl
  rotate_left
  · simp only [Act.put, List.setIfInBounds_toArray, List.set_cons_zero, List.set_cons_succ, i64_w, i32_w]
    rfl
  refine pure_ (i := 10) (N := some 4) (v := ?_) (a' := ?_) #[yY,yY,yY,yY,yY,yY,yY,yY,yY,yY,yY] rfl rfl (by kernel_rfl) (fun _ _ _ h => h) (Or.inl ⟨by rfl, ?_⟩) ?_ ?_
  rotate_left
  · intro w'
    go_simp
    with_reducible rfl
  rotate_left
  · simp only [Act.put, List.setIfInBounds_toArray, List.set_cons_zero, List.set_cons_succ, i64_w, i32_w]
    rfl
  refine done_ (by kernel_rfl) ?_
  go_wp2
  go_ret3
  exact ⟨pv, rfl, HB.out.drew, fun hl => H2.out (by rw [hl]; simp), fun c hc => by
    obtain ⟨q, he, hq⟩ := H4.out (by rw [hc]; simp) c hc
    exact ⟨q, he, hq.below (Below.refl _ _).drew⟩⟩
end Go.Proofs.YteockihoefbmdaaGreatDoor.Ber
namespace Go.Proofs.YteockihoefbmdaaGreatDoor.Ber
open Go.RowKit Go.Proofs.YteockihoefbmdaaGreatDoorW.PrintWords Go.Proofs.YteockihoefbmdaaGreatDoor.Buf Go.Proofs.YteockihoefbmdaaGreatDoor.Pk
set_option linter.unusedVariables false
set_option linter.unusedSimpArgs false

theorem catch_idle (p : Addr) (w : World) :
    CallsD Tryz.prog 60 #[.pointer (some p)] .returning w fun e u' w' => e = .returned (.tuple #[]) ∧ u' = .returning ∧ w' = w := by
  refine callsD_of_wpS Tryz.func60 rfl fun c₀ cs hu => ?_
  apply wpS_seq
  apply wpS_region
  simp [wpOpsS, go_sem, recoverD, hu, Tryz.ntmps60, Exit.thenS]
  refine wpS_cond (t := false) (by simp [Act.eval, Array.replicate]) ?_
  simp only [Bool.false_eq_true, if_false]
  refine wpS_of_wp (wp_skip ?_)
  cases c₀
  simp_all [bodyPostS, results, Tryz.results60]

set_option maxHeartbeats 1600000 in
set_option maxRecDepth 100000 in
/-- safely: what the closure answers, and the memory as it left it. -/
theorem safely_answer (cap : Array Value) (b : Bool) (Q : World → Prop) (w : World)
    (h : ∀ W, W = w.alloc (.cells #[.bool false] 4) → Calls Tryz.prog 29 cap W fun e w' => e = .returned (.bool b) ∧ Q w' ∧ w'.heap[w.heap.size]? = some (.cells #[.bool false] 4 (0, 0))) :
    Calls Tryz.prog 28 #[.func (.func 29) #[] cap] w fun e w' => e = .returned (.bool b) ∧ ∃ W, Q W ∧ w' = W.setCell ⟨w.heap.size, 0, none⟩ (.bool b) := by
  have hmf : ∀ (fn : Fn) (first cap : Array Value) (w : World), (Instr.makeFunc fn first cap).run Tryz.prog w = .ok (.func fn first cap) w := fun _ _ _ _ => rfl
  obtain ⟨W1, hW1⟩ : ∃ W1, W1 = w.alloc (.cells #[.bool false] 4) := ⟨_, rfl⟩
  have HC := Lib.hid (h W1 hW1)
  clear h
  go_enter_defers Tryz.func28, Tryz.ntmps28
  go_wp2_with (go_at_call 29
               rw [← hW1]
               with_reducible refine HC.out.mono ?_
               rintro e W2 ⟨rfl, hQ, hx⟩
               have c0 : W2.cell? ⟨w.heap.size, 0, none⟩ = some (.bool false) := blk_cell hx 0
               have f0 := blk_frozen hx 0)
  refine leaves_cons (f := 60) (args := #[.pointer (some ⟨w.heap.size, 0, none⟩)]) (by simp) (by simp [go_sem]) ?_
  refine (catch_idle ⟨w.heap.size, 0, none⟩ _).mono ?_
  rintro e u' w'' ⟨rfl, rfl, rfl⟩
  have h5 := blk_set hx 0 (.bool b)
  have c5 := blk_cell h5 0
  simp at c5
  simp [Leaves, settle, results, Tryz.results28, go_sem, c5]
  exact ⟨W2, hQ, rfl⟩
end Go.Proofs.YteockihoefbmdaaGreatDoor.Ber
namespace Go.Proofs.YteockihoefbmdaaGreatDoor.Ber
open Go.RowKit Go.Proofs.YteockihoefbmdaaGreatDoorW.PrintWords Go.Proofs.YteockihoefbmdaaGreatDoorW.PrintLast Go.Proofs.YteockihoefbmdaaGreatDoor.Buf Go.Proofs.YteockihoefbmdaaGreatDoor.Pk Go.Proofs.YteockihoefbmdaaGreatDoor.Tree Go.Proofs.YteockihoefbmdaaGreatDoor.Num Go.Proofs.YteockihoefbmdaaGreatDoor.Ident Go.Proofs.YteockihoefbmdaaGreatDoor.PFnEncode
set_option linter.unusedVariables false
set_option linter.unusedSimpArgs false

theorem ld_str {w : World} {g : Nat} {v : Value} (hc : w.cell? ⟨g, 0, none⟩ = some v) : (loadVar 9 ⟨g, 0, none⟩).run Tryz.prog w = .ok v w := by
  simp [loadVar, run_underlying Tryz.underlying9, hc, go_sem]
theorem results_ccct {P : Program} {fn : Func} {p q r u : Tmp} {tp tq tr : TypeId} (h : fn.results = #[.cell p tp, .cell q tq, .cell r tr, .tmp u]) (tmps : Array Value) (w : World) (g1 g2 g3 : Nat) (v1 v2 v3 : Value)
    (hp : tmps.getD p undef = .pointer (some ⟨g1, 0, none⟩)) (hq : tmps.getD q undef = .pointer (some ⟨g2, 0, none⟩)) (hr : tmps.getD r undef = .pointer (some ⟨g3, 0, none⟩))
    (l1 : (loadVar tp ⟨g1, 0, none⟩).run P w = .ok v1 w) (l2 : (loadVar tq ⟨g2, 0, none⟩).run P w = .ok v2 w) (l3 : (loadVar tr ⟨g3, 0, none⟩).run P w = .ok v3 w) :
    (results fn tmps).run P w = .ok (.tuple #[v1, v2, v3, tmps.getD u undef]) w := by
  have hp' : tmps[p]?.getD undef = .pointer (some ⟨g1, 0, none⟩) := by simpa using hp
  have hq' : tmps[q]?.getD undef = .pointer (some ⟨g2, 0, none⟩) := by simpa using hq
  have hr' : tmps[r]?.getD undef = .pointer (some ⟨g3, 0, none⟩) := by simpa using hr
  simp [results, h, hp', hq', hr', asAddr, l1, l2, l3]
theorem mf : ∀ (fn : Fn) (first cap : Array Value) (w : World), (Instr.makeFunc fn first cap).run Tryz.prog w = .ok (.func fn first cap) w := fun _ _ _ _ => rfl
end Go.Proofs.YteockihoefbmdaaGreatDoor.Ber
namespace Go.Proofs.YteockihoefbmdaaGreatDoor.Ber
open Go.RowKit Go.Proofs.YteockihoefbmdaaGreatDoorW.PrintWords Go.Proofs.YteockihoefbmdaaGreatDoorW.PrintLast Go.Proofs.YteockihoefbmdaaGreatDoor.Buf Go.Proofs.YteockihoefbmdaaGreatDoor.Pk Go.Proofs.YteockihoefbmdaaGreatDoor.Tree Go.Proofs.YteockihoefbmdaaGreatDoor.Num Go.Proofs.YteockihoefbmdaaGreatDoor.Ident Go.Proofs.YteockihoefbmdaaGreatDoor.PFnEncode
set_option linter.unusedVariables false
set_option linter.unusedSimpArgs false

/-- a packet stays where blocks of other types change -/
theorem pt_far {w w1 : World} {b : Nat} {x : Pk} (h : Pt w b x) {S : Nat → Prop} (ho : Only S w w1) (hS : ∀ k, S k → ∀ cs q, w.heap[k]? = some (.cells cs q (0, 0)) → q ≠ T ∧ q ≠ TB ∧ q ≠ 5 ∧ q ≠ TP) : Pt w1 b x := by
  refine IsPk.mono (IsPk.only (kPk.M_bound h) ho (fun k hk hs => ?_)) (fun _ _ => trivial)
  obtain ⟨_, _, _, q, hq, cs, hc⟩ := hk
  obtain ⟨h1, h2, h3, h4⟩ := hS k hs cs q hc
  have hq' : q ∈ E := hq
  simp only [E, List.mem_cons, List.not_mem_nil, or_false] at hq'
  rcases hq' with rfl | rfl | rfl | rfl
  · exact h1 rfl
  · exact h2 rfl
  · exact h3 rfl
  · exact h4 rfl
set_option maxHeartbeats 3200000 in
set_option maxRecDepth 100000 in
theorem ansCl0 {W : World} {ap gn gh gv : Nat} (p : S30) (A3 : Option Addr) (c3 : Nat) (A4 : Option Addr) (c4 : Nat) {x r c0 c1 c2 c3' : Pk} {l : List Pk} {nm : ByteArray} (E : IsExt x r c0 c1 c2 c3' l nm) {s1 : ByteArray} {b1 : Bool} (hl : l = [])
    (hrd : Calls Tryz.prog 30 #[.agg #[.int .i64 p.f0, .int .i64 p.f1, .bool p.f2, .slice A3 p.f3.length c3, .slice A4 p.f4.length c4]] W fun e w' => ∃ b, e = .returned (.pointer (some ⟨b, 0, none⟩)) ∧ Pt w' b x ∧ Below W.heap.size W w') (ha : W.heap[ap]? = some (.cells #[.int .i64 p.f0, .int .i64 p.f1, .bool p.f2, .slice A3 p.f3.length c3, .slice A4 p.f4.length c4] 30 (0, 0))) (hgn : W.heap[gn]? = some (.cells #[.string s1] 9 (0, 0))) (hgh : W.heap[gh]? = some (.cells #[.bool b1] 4 (0, 0))) (hgv : W.heap[gv]? = some (.cells #[.slice none 0 0] 22 (0, 0))) :
    Calls Tryz.prog 29 #[.pointer (some ⟨ap, 0, none⟩), .pointer (some ⟨gn, 0, none⟩), .pointer (some ⟨gh, 0, none⟩), .pointer (some ⟨gv, 0, none⟩)] W fun e w' => e = .returned (.bool true) ∧ w'.heap[gn]? = some (.cells #[.string nm] 9 (0, 0)) ∧ w'.heap[gh]? = some (.cells #[.bool false] 4 (0, 0)) ∧ w'.heap[gv]? = some (.cells #[.slice none 0 0] 22 (0, 0)) ∧ Only (fun i => i = gn ∨ i = gh ∨ i = gv) W w' := by
  have HRD := Lib.hid hrd
  have HEO : Hid (∀ w b, Pt w b x → Calls Tryz.prog 31 #[.pointer (some ⟨b, 0, none⟩)] w fun e w' => ∃ pv, e = .returned (.tuple #[.string nm, pv, .bool true]) ∧ Below w.heap.size w w' ∧ (l = [] → pv = .pointer none) ∧ (∀ c, l = [c] → ∃ q, pv = .pointer (some ⟨q, 0, none⟩) ∧ Pt w' q c)) := Lib.hid (fun w b hp => extOf hp E)
  have HGN := Lib.hid hgn
  have HGH := Lib.hid hgh
  have HGV := Lib.hid hgv
  have hnh : gn ≠ gh := blk_ne hgn hgh (by decide)
  have hnv : gn ≠ gv := blk_ne hgn hgv (by decide)
  have hhv : gh ≠ gv := blk_ne hgh hgv (by decide)
  have HN : Hid (gn ≠ gh ∧ gn ≠ gv ∧ gh ≠ gv) := Lib.hid ⟨hnh, hnv, hhv⟩
  have a0 : W.cell? ⟨ap, 0, none⟩ = some (.int .i64 p.f0) := blk_cell ha 0
  have a1 : W.cell? ⟨ap, 1, none⟩ = some (.int .i64 p.f1) := blk_cell ha 1
  have a2 : W.cell? ⟨ap, 2, none⟩ = some (.bool p.f2) := blk_cell ha 2
  have a3 : W.cell? ⟨ap, 3, none⟩ = some (.slice A3 p.f3.length c3) := blk_cell ha 3
  have a4 : W.cell? ⟨ap, 4, none⟩ = some (.slice A4 p.f4.length c4) := blk_cell ha 4
  have HL := Lib.hid hl
  clear hrd E ha hgn hgh hgv hnh hnv hhv hl
  go_enter Tryz.func29, Tryz.ntmps29
  go_wp2_with (first
    | (go_at_call 30
       with_reducible refine HRD.out.mono ?_
       rintro e W1 ⟨b, rfl, hp, hb⟩
       have HRC := Lib.hid (HEO.out W1 b hp)
       have HB1 := Lib.hid hb
       clear hp hb)
    | (go_at_call 31
       with_reducible refine HRC.out.mono ?_
       rintro e W2 ⟨pv, rfl, hb, hl0, hl1⟩
       have hpv := hl0 HL.out
       subst hpv
       have HB2 := Lib.hid (HB1.out.trans (hb.mono HB1.out.size))
       have hn2 := blk_below HGN.out HB2.out
       have hh2 := blk_below HGH.out HB2.out
       have hv2 := blk_below HGV.out HB2.out
       have n1 := HN.out.1
       have n2 := HN.out.1.symm
       have k0 : W2.cell? ⟨gn, 0, none⟩ = some (.string s1) := blk_cell hn2 0
       have kf0 := blk_frozen hn2 0
       have k1 : W2.cell? ⟨gh, 0, none⟩ = some (.bool b1) := blk_cell hh2 0
       have kf1 := blk_frozen hh2 0
       have k2 : ∀ v, (W2.setCell ⟨gn, 0, none⟩ v).cell? ⟨gh, 0, none⟩ = some (.bool b1) := fun v => blk_cell (blk_far hh2 (p := ⟨gn, 0, none⟩) HN.out.1.symm v) 0
       have kf2 : ∀ v, (W2.setCell ⟨gn, 0, none⟩ v).frozen? ⟨gh, 0, none⟩ = false := fun v => blk_frozen (blk_far hh2 (p := ⟨gn, 0, none⟩) HN.out.1.symm v) 0
       have k3 : ∀ v u, ((W2.setCell ⟨gn, 0, none⟩ v).setCell ⟨gh, 0, none⟩ (.bool u)).cell? ⟨gh, 0, none⟩ = some (.bool u) := fun v u => blk_cell (blk_set (blk_far hh2 (p := ⟨gn, 0, none⟩) HN.out.1.symm v) 0 (.bool u)) 0
       have HN2 := Lib.hid hn2
       have HH2 := Lib.hid hh2
       have HV2 := Lib.hid hv2
       clear hb hn2 hh2 hv2 hl0 hl1))
  go_ret
  have ho : Only (fun i => i = gn ∨ i = gh ∨ i = gv) W W2 := Only.of_below _ HB2.out
  have m1 := HN.out
  refine ⟨rfl, ?_, ?_, ?_, (ho.setCell (a := ⟨gn, 0, none⟩) (fun _ => .inl rfl) _).setCell (a := ⟨gh, 0, none⟩) (fun _ => .inr (.inl rfl)) _⟩
  · exact blk_far (blk_set HN2.out 0 _) (p := ⟨gh, 0, none⟩) m1.1 _
  · exact blk_set (blk_far HH2.out (p := ⟨gn, 0, none⟩) m1.1.symm _) 0 _
  · exact blk_far (blk_far HV2.out (p := ⟨gn, 0, none⟩) m1.2.1.symm _) (p := ⟨gh, 0, none⟩) m1.2.2.symm _
set_option maxHeartbeats 3200000 in
set_option maxRecDepth 100000 in
theorem ansCl1 {W : World} {ap gn gh gv : Nat} (p : S30) (A3 : Option Addr) (c3 : Nat) (A4 : Option Addr) (c4 : Nat) {x r c0 c1 c2 c3' : Pk} {l : List Pk} {nm : ByteArray} (E : IsExt x r c0 c1 c2 c3' l nm) {s1 : ByteArray} {b1 : Bool} (cc : Pk) (hl : l = [cc]) (hcl : cc.data.length ≤ 1000000)
    (hrd : Calls Tryz.prog 30 #[.agg #[.int .i64 p.f0, .int .i64 p.f1, .bool p.f2, .slice A3 p.f3.length c3, .slice A4 p.f4.length c4]] W fun e w' => ∃ b, e = .returned (.pointer (some ⟨b, 0, none⟩)) ∧ Pt w' b x ∧ Below W.heap.size W w') (ha : W.heap[ap]? = some (.cells #[.int .i64 p.f0, .int .i64 p.f1, .bool p.f2, .slice A3 p.f3.length c3, .slice A4 p.f4.length c4] 30 (0, 0))) (hgn : W.heap[gn]? = some (.cells #[.string s1] 9 (0, 0))) (hgh : W.heap[gh]? = some (.cells #[.bool b1] 4 (0, 0))) (hgv : W.heap[gv]? = some (.cells #[.slice none 0 0] 22 (0, 0))) :
    Calls Tryz.prog 29 #[.pointer (some ⟨ap, 0, none⟩), .pointer (some ⟨gn, 0, none⟩), .pointer (some ⟨gh, 0, none⟩), .pointer (some ⟨gv, 0, none⟩)] W fun e w' => e = .returned (.bool true) ∧ w'.heap[gn]? = some (.cells #[.string nm] 9 (0, 0)) ∧ w'.heap[gh]? = some (.cells #[.bool true] 4 (0, 0)) ∧ (∃ A c, w'.heap[gv]? = some (.cells #[.slice A cc.data.length c] 22 (0, 0)) ∧ B8.R 5 w' W.heap.size (fun _ => True) (.slice A cc.data.length c) cc.data) ∧ Only (fun i => i = gn ∨ i = gh ∨ i = gv) W w' := by
  have HRD := Lib.hid hrd
  have HEO : Hid (∀ w b, Pt w b x → Calls Tryz.prog 31 #[.pointer (some ⟨b, 0, none⟩)] w fun e w' => ∃ pv, e = .returned (.tuple #[.string nm, pv, .bool true]) ∧ Below w.heap.size w w' ∧ (l = [] → pv = .pointer none) ∧ (∀ c, l = [c] → ∃ q, pv = .pointer (some ⟨q, 0, none⟩) ∧ Pt w' q c)) := Lib.hid (fun w b hp => extOf hp E)
  have HGN := Lib.hid hgn
  have HGH := Lib.hid hgh
  have HGV := Lib.hid hgv
  have hnh : gn ≠ gh := blk_ne hgn hgh (by decide)
  have hnv : gn ≠ gv := blk_ne hgn hgv (by decide)
  have hhv : gh ≠ gv := blk_ne hgh hgv (by decide)
  have HN : Hid (gn ≠ gh ∧ gn ≠ gv ∧ gh ≠ gv) := Lib.hid ⟨hnh, hnv, hhv⟩
  have a0 : W.cell? ⟨ap, 0, none⟩ = some (.int .i64 p.f0) := blk_cell ha 0
  have a1 : W.cell? ⟨ap, 1, none⟩ = some (.int .i64 p.f1) := blk_cell ha 1
  have a2 : W.cell? ⟨ap, 2, none⟩ = some (.bool p.f2) := blk_cell ha 2
  have a3 : W.cell? ⟨ap, 3, none⟩ = some (.slice A3 p.f3.length c3) := blk_cell ha 3
  have a4 : W.cell? ⟨ap, 4, none⟩ = some (.slice A4 p.f4.length c4) := blk_cell ha 4
  have HL := Lib.hid hl
  have HLT : Hid (gn < W.heap.size ∧ gh < W.heap.size ∧ gv < W.heap.size) := Lib.hid ⟨blk_lt hgn, blk_lt hgh, blk_lt hgv⟩
  have HCL := Lib.hid hcl
  clear hrd E ha hgn hgh hgv hnh hnv hhv hl hcl
  go_enter Tryz.func29, Tryz.ntmps29
  go_wp2_with (first
    | (go_at_call 30
       with_reducible refine HRD.out.mono ?_
       rintro e W1 ⟨b, rfl, hp, hb⟩
       have HRC := Lib.hid (HEO.out W1 b hp)
       have HB1 := Lib.hid hb
       clear hp hb)
    | (go_at_call 31
       with_reducible refine HRC.out.mono ?_
       rintro e W2 ⟨pv, rfl, hb, hl0, hl1⟩
       obtain ⟨qv, hpv, hqv⟩ := hl1 cc HL.out
       subst hpv
       have HB2 := Lib.hid (HB1.out.trans (hb.mono HB1.out.size))
       have hn2 := blk_below HGN.out HB2.out
       have hh2 := blk_below HGH.out HB2.out
       have hv2 := blk_below HGV.out HB2.out
       have n1 := HN.out.1
       have n2 := HN.out.1.symm
       have k0 : W2.cell? ⟨gn, 0, none⟩ = some (.string s1) := blk_cell hn2 0
       have kf0 := blk_frozen hn2 0
       have k1 : W2.cell? ⟨gh, 0, none⟩ = some (.bool b1) := blk_cell hh2 0
       have kf1 := blk_frozen hh2 0
       have k2 : ∀ v, (W2.setCell ⟨gn, 0, none⟩ v).cell? ⟨gh, 0, none⟩ = some (.bool b1) := fun v => blk_cell (blk_far hh2 (p := ⟨gn, 0, none⟩) HN.out.1.symm v) 0
       have kf2 : ∀ v, (W2.setCell ⟨gn, 0, none⟩ v).frozen? ⟨gh, 0, none⟩ = false := fun v => blk_frozen (blk_far hh2 (p := ⟨gn, 0, none⟩) HN.out.1.symm v) 0
       have k3 : ∀ v u, ((W2.setCell ⟨gn, 0, none⟩ v).setCell ⟨gh, 0, none⟩ (.bool u)).cell? ⟨gh, 0, none⟩ = some (.bool u) := fun v u => blk_cell (blk_set (blk_far hh2 (p := ⟨gn, 0, none⟩) HN.out.1.symm v) 0 (.bool u)) 0
       have ho3 : Only (fun i => i = gn ∨ i = gh) W2 ((W2.setCell ⟨gn, 0, none⟩ (.string nm)).setCell ⟨gh, 0, none⟩ (.bool true)) := ((Only.refl (fun i => i = gn ∨ i = gh) W2).setCell (a := ⟨gn, 0, none⟩) (fun _ => .inl rfl) _).setCell (a := ⟨gh, 0, none⟩) (fun _ => .inr rfl) _
       have hq3 : Pt ((W2.setCell ⟨gn, 0, none⟩ (.string nm)).setCell ⟨gh, 0, none⟩ (.bool true)) qv cc := pt_far hqv ho3 (fun k hk cs q hc => by
         rcases hk with rfl | rfl
         · rw [hn2] at hc
           injection hc with hc
           injection hc with _ hc
           subst hc
           exact ⟨by decide, by decide, by decide, by decide⟩
         · rw [hh2] at hc
           injection hc with hc
           injection hc with _ hc
           subst hc
           exact ⟨by decide, by decide, by decide, by decide⟩)
       obtain ⟨db, v, bv, cv, P⟩ := parts_of hq3
       have m6 : ((W2.setCell ⟨gn, 0, none⟩ (.string nm)).setCell ⟨gh, 0, none⟩ (.bool true)).cell? ⟨qv, 5, none⟩ = some (.pointer (some ⟨db, 0, none⟩)) := P.cell 5
       have HPP : Hid (∀ W3, W3 = (W2.setCell ⟨gn, 0, none⟩ (.string nm)).setCell ⟨gh, 0, none⟩ (.bool true) → Lib.IsBuffer 134 5 0 db (nums .u8 cc.data) W3) := Lib.hid (fun W3 h => by rw [h]; exact P.buf.shelf)
       clear P hq3 ho3 hqv
       have HN2 := Lib.hid hn2
       have HH2 := Lib.hid hh2
       have HV2 := Lib.hid hv2
       clear hb hn2 hh2 hv2 hl0 hl1)
    | (go_at_call 33
       obtain ⟨W3, hW3⟩ : ∃ W3, W3 = (W2.setCell ⟨gn, 0, none⟩ (.string nm)).setCell ⟨gh, 0, none⟩ (.bool true) := ⟨_, rfl⟩
       rw [← hW3]
       have PP := HPP.out W3 hW3
       with_reducible refine (Tryz.Buffer_Bytes 0 db (nums .u8 cc.data) W3 PP).mono ?_
       rintro e W4 ⟨v2, rfl, hv2, nd, hW4⟩
       rw [nums_length] at hv2
       obtain ⟨A2, d2, rfl, hl2, hc2, _⟩ := own_row_parts hv2
       have hB4 : Below W3.heap.size W3 W4 := hW4 ▸ pw_below_drewN (Below.refl _ W3) nd
       have HC4 := Lib.hid (clone_any cc.data A2 d2 W4 hc2 (Nat.le_trans HCL.out (by decide)))
       have HW3 := Lib.hid hW3
       have HB4 := Lib.hid hB4
       clear hv2 hW4 hl2 hc2 hB4 PP hW3)
    | (go_at_call 32
       with_reducible refine HC4.out.mono ?_
       rintro e W5 ⟨v5, rfl, hv5, hB5⟩
       obtain ⟨A5, d5, hv5e⟩ := Kd.R_slice hv5
       subst hv5e
       have HV5 := Lib.hid hv5
       have HB5 := Lib.hid (HB4.out.trans (hB5.mono HB4.out.size))
       have hn3 : W3.heap[gn]? = some (.cells #[.string nm] 9 (0, 0)) := by rw [HW3.out]; exact blk_far (blk_set HN2.out 0 _) (p := ⟨gh, 0, none⟩) HN.out.1 _
       have hh3 : W3.heap[gh]? = some (.cells #[.bool true] 4 (0, 0)) := by rw [HW3.out]; exact blk_set (blk_far HH2.out (p := ⟨gn, 0, none⟩) HN.out.1.symm _) 0 _
       have hv3 : W3.heap[gv]? = some (.cells #[.slice none 0 0] 22 (0, 0)) := by rw [HW3.out]; exact blk_far (blk_far HV2.out (p := ⟨gn, 0, none⟩) HN.out.2.1.symm _) (p := ⟨gh, 0, none⟩) HN.out.2.2.symm _
       have HN5 := Lib.hid (blk_below hn3 HB5.out)
       have HH5 := Lib.hid (blk_below hh3 HB5.out)
       have hv5 := blk_below hv3 HB5.out
       have j0 : W5.cell? ⟨gv, 0, none⟩ = some (.slice none 0 0) := blk_cell hv5 0
       have jf0 := blk_frozen hv5 0
       have HVV := Lib.hid hv5
       have HS5 : Hid (W.heap.size ≤ W4.heap.size) := Lib.hid (by
         have h1 := HB2.out.size
         have h2 := HB4.out.size
         have h3 : W3.heap.size = W2.heap.size := by rw [HW3.out]; simp
         omega)
       clear hB5 hn3 hh3 hv3 hv5))
  go_ret
  have m1 := HN.out
  have hlt := HLT.out
  have hs := HS5.out
  have ho3 : Only (fun i => i = gn ∨ i = gh ∨ i = gv) W W3 := by
    rw [HW3.out]
    exact ((Only.of_below (fun i => i = gn ∨ i = gh ∨ i = gv) HB2.out).setCell (a := ⟨gn, 0, none⟩) (fun _ => .inl rfl) _).setCell (a := ⟨gh, 0, none⟩) (fun _ => .inr (.inl rfl)) _
  refine ⟨rfl, ?_, ?_, ⟨A5, d5, blk_set HVV.out 0 _, ?_⟩, (ho3.trans (Only.of_below (fun i => i = gn ∨ i = gh ∨ i = gv) HB5.out) (fun _ _ h => h)).setCell (a := ⟨gv, 0, none⟩) (fun _ => .inr (.inr rfl)) _⟩
  · exact blk_far HN5.out (p := ⟨gv, 0, none⟩) m1.2.1 _
  · exact blk_far HH5.out (p := ⟨gv, 0, none⟩) m1.2.2 _
  · exact Kd.R_lower (Kd.R_mono (Kd.R_far (Kd.R_mono (ok' := fun k => k ≠ gv) (Kd.R_bound HV5.out) (fun k hk => by have := hk.2.1; omega)) (p := ⟨gv, 0, none⟩) (fun k hk => hk) _) (fun _ _ => trivial)) hs
end Go.Proofs.YteockihoefbmdaaGreatDoor.Ber
namespace Go.Proofs.YteockihoefbmdaaGreatDoor.Ber
open Go.RowKit Go.Proofs.YteockihoefbmdaaGreatDoorW.PrintWords Go.Proofs.YteockihoefbmdaaGreatDoorW.PrintLast Go.Proofs.YteockihoefbmdaaGreatDoor.Buf Go.Proofs.YteockihoefbmdaaGreatDoor.Pk Go.Proofs.YteockihoefbmdaaGreatDoor.Tree Go.Proofs.YteockihoefbmdaaGreatDoor.Num Go.Proofs.YteockihoefbmdaaGreatDoor.Ident Go.Proofs.YteockihoefbmdaaGreatDoor.PFnEncode
set_option linter.unusedVariables false
set_option linter.unusedSimpArgs false
theorem ld_bool {w : World} {g : Nat} {v : Value} (hc : w.cell? ⟨g, 0, none⟩ = some v) : (loadVar 4 ⟨g, 0, none⟩).run Tryz.prog w = .ok v w := by
  simp [loadVar, run_underlying Tryz.underlying4, hc, go_sem]
theorem ld_sl {w : World} {g : Nat} {v : Value} (hc : w.cell? ⟨g, 0, none⟩ = some v) : (loadVar 22 ⟨g, 0, none⟩).run Tryz.prog w = .ok v w := by
  simp [loadVar, run_underlying Tryz.underlying22, hc, go_sem]
set_option maxHeartbeats 3200000 in
set_option maxRecDepth 100000 in
theorem ans_none (w : World) (p : S30) (A3 : Option Addr) (c3 : Nat) (A4 : Option Addr) (c4 : Nat) {x r c0 c1 c2 c3' : Pk} {l : List Pk} {nm : ByteArray} (E : IsExt x r c0 c1 c2 c3' l nm) (hl : l = []) (hrd : ∀ W, Below w.heap.size w W → Calls Tryz.prog 30 #[.agg #[.int .i64 p.f0, .int .i64 p.f1, .bool p.f2, .slice A3 p.f3.length c3, .slice A4 p.f4.length c4]] W fun e w' => ∃ b, e = .returned (.pointer (some ⟨b, 0, none⟩)) ∧ Pt w' b x ∧ Below W.heap.size W w') :
    Calls Tryz.prog 9 #[.agg #[.int .i64 p.f0, .int .i64 p.f1, .bool p.f2, .slice A3 p.f3.length c3, .slice A4 p.f4.length c4]] w fun e w' => e = .returned (.tuple #[.string nm, .slice none 0 0, .bool false, .bool true]) ∧ Below w.heap.size w w' := by
  have hmf := mf
  obtain ⟨W0, hW0⟩ : ∃ W0, W0 = ((((w).alloc (.cells #[.int .i64 p.f0, .int .i64 p.f1, .bool p.f2, .slice A3 p.f3.length c3, .slice A4 p.f4.length c4] 30)).alloc (.cells #[.string ⟨#[]⟩] 9)).alloc (.cells #[.slice none 0 0] 22)).alloc (.cells #[.bool false] 4) := ⟨_, rfl⟩
  have hs0 : W0.heap.size = w.heap.size + 1 + 1 + 1 + 1 := by rw [hW0]; simp
  have hb0 : Below w.heap.size w W0 := by rw [hW0]; exact below_alloc (below_alloc (below_alloc (below_alloc (Below.refl _ _) _) _) _) _
  have hx0 : W0.heap[w.heap.size]? = some (.cells #[.int .i64 p.f0, .int .i64 p.f1, .bool p.f2, .slice A3 p.f3.length c3, .slice A4 p.f4.length c4] 30 (0, 0)) := by
    have := (blk_alloc (blk_alloc (blk_alloc (blk_new (w) (.cells #[.int .i64 p.f0, .int .i64 p.f1, .bool p.f2, .slice A3 p.f3.length c3, .slice A4 p.f4.length c4] 30)) (.cells #[.string ⟨#[]⟩] 9)) (.cells #[.slice none 0 0] 22)) (.cells #[.bool false] 4))
    rw [← hW0] at this
    exact this
  have hx1 : W0.heap[w.heap.size + 1]? = some (.cells #[.string ⟨#[]⟩] 9 (0, 0)) := by
    have := (blk_alloc (blk_alloc (blk_new ((w).alloc (.cells #[.int .i64 p.f0, .int .i64 p.f1, .bool p.f2, .slice A3 p.f3.length c3, .slice A4 p.f4.length c4] 30)) (.cells #[.string ⟨#[]⟩] 9)) (.cells #[.slice none 0 0] 22)) (.cells #[.bool false] 4))
    have e : ((w).alloc (.cells #[.int .i64 p.f0, .int .i64 p.f1, .bool p.f2, .slice A3 p.f3.length c3, .slice A4 p.f4.length c4] 30)).heap.size = w.heap.size + 1 := by simp
    rw [e, ← hW0] at this
    exact this
  have hx2 : W0.heap[w.heap.size + 1 + 1]? = some (.cells #[.slice none 0 0] 22 (0, 0)) := by
    have := (blk_alloc (blk_new (((w).alloc (.cells #[.int .i64 p.f0, .int .i64 p.f1, .bool p.f2, .slice A3 p.f3.length c3, .slice A4 p.f4.length c4] 30)).alloc (.cells #[.string ⟨#[]⟩] 9)) (.cells #[.slice none 0 0] 22)) (.cells #[.bool false] 4))
    have e : (((w).alloc (.cells #[.int .i64 p.f0, .int .i64 p.f1, .bool p.f2, .slice A3 p.f3.length c3, .slice A4 p.f4.length c4] 30)).alloc (.cells #[.string ⟨#[]⟩] 9)).heap.size = w.heap.size + 1 + 1 := by simp
    rw [e, ← hW0] at this
    exact this
  have hx3 : W0.heap[w.heap.size + 1 + 1 + 1]? = some (.cells #[.bool false] 4 (0, 0)) := by
    have := (blk_new ((((w).alloc (.cells #[.int .i64 p.f0, .int .i64 p.f1, .bool p.f2, .slice A3 p.f3.length c3, .slice A4 p.f4.length c4] 30)).alloc (.cells #[.string ⟨#[]⟩] 9)).alloc (.cells #[.slice none 0 0] 22)) (.cells #[.bool false] 4))
    have e : ((((w).alloc (.cells #[.int .i64 p.f0, .int .i64 p.f1, .bool p.f2, .slice A3 p.f3.length c3, .slice A4 p.f4.length c4] 30)).alloc (.cells #[.string ⟨#[]⟩] 9)).alloc (.cells #[.slice none 0 0] 22)).heap.size = w.heap.size + 1 + 1 + 1 := by simp
    rw [e, ← hW0] at this
    exact this
  have hcl : ∀ W, W = W0.alloc (.cells #[.bool false] 4) → Calls Tryz.prog 29 #[.pointer (some ⟨w.heap.size, 0, none⟩), .pointer (some ⟨w.heap.size + 1, 0, none⟩), .pointer (some ⟨w.heap.size + 1 + 1 + 1, 0, none⟩), .pointer (some ⟨w.heap.size + 1 + 1, 0, none⟩)] W fun e w' => e = .returned (.bool true) ∧ ((w'.heap[w.heap.size + 1]? = some (.cells #[.string nm] 9 (0, 0)) ∧ w'.heap[w.heap.size + 1 + 1]? = some (.cells #[.slice none 0 0] 22 (0, 0)) ∧ w'.heap[w.heap.size + 1 + 1 + 1]? = some (.cells #[.bool false] 4 (0, 0))) ∧ Below w.heap.size w w') ∧ w'.heap[W0.heap.size]? = some (.cells #[.bool false] 4 (0, 0)) := by
    intro W hW
    have hbW : Below w.heap.size w W := by rw [hW]; exact below_alloc hb0 _
    have hsW : W.heap.size = W0.heap.size + 1 := by rw [hW]; simp
    have hbl : W.heap[W0.heap.size]? = some (.cells #[.bool false] 4 (0, 0)) := by rw [hW]; exact blk_new _ _
    have y0 := blk_alloc hx0 (.cells #[.bool false] 4)
    rw [← hW] at y0
    have y1 := blk_alloc hx1 (.cells #[.bool false] 4)
    rw [← hW] at y1
    have y2 := blk_alloc hx2 (.cells #[.bool false] 4)
    rw [← hW] at y2
    have y3 := blk_alloc hx3 (.cells #[.bool false] 4)
    rw [← hW] at y3
    refine (ansCl0 p A3 c3 A4 c4 E hl (hrd W hbW) y0 y1 y3 y2).mono ?_
    rintro e w' ⟨he, q0, q1, q2, ho⟩
    refine ⟨he, ⟨⟨q0, q2, q1⟩, hbW.trans (ho.below hbW.size (fun i hi => by omega))⟩, (ho.block _ (by omega) (by omega)).trans hbl⟩
  have HS := Lib.hid (safely_answer #[.pointer (some ⟨w.heap.size, 0, none⟩), .pointer (some ⟨w.heap.size + 1, 0, none⟩), .pointer (some ⟨w.heap.size + 1 + 1 + 1, 0, none⟩), .pointer (some ⟨w.heap.size + 1 + 1, 0, none⟩)] true (fun w' => (w'.heap[w.heap.size + 1]? = some (.cells #[.string nm] 9 (0, 0)) ∧ w'.heap[w.heap.size + 1 + 1]? = some (.cells #[.slice none 0 0] 22 (0, 0)) ∧ w'.heap[w.heap.size + 1 + 1 + 1]? = some (.cells #[.bool false] 4 (0, 0))) ∧ Below w.heap.size w w') W0 hcl)
  have HS0 := Lib.hid hs0
  have HW0 := Lib.hid hW0
  clear hrd hcl hs0 hb0 hW0 hx0 hx1 hx2 hx3 E hl
  go_enter Tryz.func9, Tryz.ntmps9
  go_wp2_with (go_at_call 28
               rw [← HW0.out]
               with_reducible refine HS.out.mono ?_
               rintro e w' ⟨rfl, W1, ⟨⟨g0, g1, g2⟩, hb1⟩, rfl⟩
               have z0 := blk_far g0 (p := ⟨W0.heap.size, 0, none⟩) (by have := HS0.out; show w.heap.size + 1 ≠ W0.heap.size; omega) (.bool true)
               have z1 := blk_far g1 (p := ⟨W0.heap.size, 0, none⟩) (by have := HS0.out; show w.heap.size + 1 + 1 ≠ W0.heap.size; omega) (.bool true)
               have z2 := blk_far g2 (p := ⟨W0.heap.size, 0, none⟩) (by have := HS0.out; show w.heap.size + 1 + 1 + 1 ≠ W0.heap.size; omega) (.bool true)
               have hb2 : Below w.heap.size w (W1.setCell ⟨W0.heap.size, 0, none⟩ (.bool true)) := hb1.setCell (p := ⟨W0.heap.size, 0, none⟩) (by have := HS0.out; show w.heap.size ≤ W0.heap.size; omega) _
               obtain ⟨W2, hW2⟩ : ∃ W2, W2 = W1.setCell ⟨W0.heap.size, 0, none⟩ (.bool true) := ⟨_, rfl⟩
               rw [← hW2] at z0 z1 z2 hb2 ⊢
               have HB2 := Lib.hid hb2
               have HZ0 := Lib.hid z0
               have HZ1 := Lib.hid z1
               have HZ2 := Lib.hid z2
               clear hb1 hb2 hW2 z0 g0 z1 g1 z2 g2)
  refine start_ (n := 7) (S := fun w' => w'.cell? ⟨w.heap.size + 1, 0, none⟩ = some (.string nm) ∧ w'.cell? ⟨w.heap.size + 1 + 1, 0, none⟩ = some (.slice none 0 0) ∧ w'.cell? ⟨w.heap.size + 1 + 1 + 1, 0, none⟩ = some (.bool false)) (ds := []) #[nN,nN,nN,nN,nN,nN,nN] (by kernel_rfl) rfl rfl ⟨blk_cell HZ0.out 0, blk_cell HZ1.out 0, blk_cell HZ2.out 0⟩ (fun hHeld => ?_)
  refine take_ (i := 0) (N := some 10) (v := ?_) (a' := ?_) #[yY,nN,nN,nN,nN,nN,nN] rfl rfl (by kernel_rfl) (fun _ _ _ h => h) (Or.inl ⟨by rfl, ?_⟩) hHeld ?_ ?_
  rotate_left
  · rintro w' ⟨s0, s1, s2⟩
    go_simp
    with_reducible rfl
  rotate_left
  · simp only [Act.put, List.setIfInBounds_toArray, List.set_cons_zero, List.set_cons_succ, i64_w, i32_w]
    rfl
  refine take_ (i := 1) (N := some 11) (v := ?_) (a' := ?_) #[yY,yY,nN,nN,nN,nN,nN] rfl rfl (by kernel_rfl) (fun _ _ _ h => h) (Or.inl ⟨by rfl, ?_⟩) hHeld ?_ ?_
  rotate_left
  · rintro w' ⟨s0, s1, s2⟩
    go_simp
    with_reducible rfl
  rotate_left
  · simp only [Act.put, List.setIfInBounds_toArray, List.set_cons_zero, List.set_cons_succ, i64_w, i32_w]
    rfl
  refine take_ (i := 2) (N := some 12) (v := ?_) (a' := ?_) #[yY,yY,yY,nN,nN,nN,nN] rfl rfl (by kernel_rfl) (fun _ _ _ h => h) (Or.inl ⟨by rfl, ?_⟩) hHeld ?_ ?_
  rotate_left
  · rintro w' ⟨s0, s1, s2⟩
    go_simp
    with_reducible rfl
  rotate_left
  · simp only [Act.put, List.setIfInBounds_toArray, List.set_cons_zero, List.set_cons_succ, i64_w, i32_w]
    rfl
  refine one_ (i := 3) (N := none) #[yY,yY,yY,yY,nN,nN,nN] rfl rfl (by kernel_rfl) (by decide) (fun K hK => ?_)
  have kc_ := blk_cell HZ0.out 0
  have kf_ := blk_frozen HZ0.out 0
  refine skip_ (w1 := ?_) (by rfl) rfl ?_ ?_
  rotate_left
  · go_simp
    rfl
  clear kc_ kf_
  have HZ0_1 := Lib.hid (blk_set HZ0.out 0 (.string nm))
  have HZ1_1 := Lib.hid (blk_far HZ1.out (p := ⟨w.heap.size + 1, 0, none⟩) (by show w.heap.size + 1 + 1 ≠ w.heap.size + 1; omega) (.string nm))
  have HZ2_1 := Lib.hid (blk_far HZ2.out (p := ⟨w.heap.size + 1, 0, none⟩) (by show w.heap.size + 1 + 1 + 1 ≠ w.heap.size + 1; omega) (.string nm))
  refine hK.out _ _ ⟨blk_cell HZ0_1.out 0, blk_cell HZ1_1.out 0, blk_cell HZ2_1.out 0⟩ (fun hHeld => ?_)
  clear hK K
  refine one_ (i := 4) (N := none) #[yY,yY,yY,yY,yY,nN,nN] rfl rfl (by kernel_rfl) (by decide) (fun K hK => ?_)
  have kc_ := blk_cell HZ1_1.out 0
  have kf_ := blk_frozen HZ1_1.out 0
  refine skip_ (w1 := ?_) (by rfl) rfl ?_ ?_
  rotate_left
  · go_simp
    rfl
  clear kc_ kf_
  have HZ0_2 := Lib.hid (blk_far HZ0_1.out (p := ⟨w.heap.size + 1 + 1, 0, none⟩) (by show w.heap.size + 1 ≠ w.heap.size + 1 + 1; omega) (.slice none 0 0))
  have HZ1_2 := Lib.hid (blk_set HZ1_1.out 0 (.slice none 0 0))
  have HZ2_2 := Lib.hid (blk_far HZ2_1.out (p := ⟨w.heap.size + 1 + 1, 0, none⟩) (by show w.heap.size + 1 + 1 + 1 ≠ w.heap.size + 1 + 1; omega) (.slice none 0 0))
  refine hK.out _ _ ⟨blk_cell HZ0_2.out 0, blk_cell HZ1_2.out 0, blk_cell HZ2_2.out 0⟩ (fun hHeld => ?_)
  clear hK K
  refine one_ (i := 5) (N := none) #[yY,yY,yY,yY,yY,yY,nN] rfl rfl (by kernel_rfl) (by decide) (fun K hK => ?_)
  have kc_ := blk_cell HZ2_2.out 0
  have kf_ := blk_frozen HZ2_2.out 0
  refine skip_ (w1 := ?_) (by rfl) rfl ?_ ?_
  rotate_left
  · go_simp
    rfl
  clear kc_ kf_
  have HZ0_3 := Lib.hid (blk_far HZ0_2.out (p := ⟨w.heap.size + 1 + 1 + 1, 0, none⟩) (by show w.heap.size + 1 ≠ w.heap.size + 1 + 1 + 1; omega) (.bool false))
  have HZ1_3 := Lib.hid (blk_far HZ1_2.out (p := ⟨w.heap.size + 1 + 1 + 1, 0, none⟩) (by show w.heap.size + 1 + 1 ≠ w.heap.size + 1 + 1 + 1; omega) (.bool false))
  have HZ2_3 := Lib.hid (blk_set HZ2_2.out 0 (.bool false))
  refine hK.out _ _ ⟨blk_cell HZ0_3.out 0, blk_cell HZ1_3.out 0, blk_cell HZ2_3.out 0⟩ (fun hHeld => ?_)
  clear hK K
  refine pure_ (i := 6) (N := some 5) (v := ?_) (a' := ?_) #[yY,yY,yY,yY,yY,yY,yY] rfl rfl (by kernel_rfl) (fun _ _ _ h => h) (Or.inl ⟨by rfl, ?_⟩) ?_ ?_
  rotate_left
  · intro w'
    go_simp
    with_reducible rfl
  rotate_left
  · simp only [Act.put, List.setIfInBounds_toArray, List.set_cons_zero, List.set_cons_succ, i64_w, i32_w]
    rfl
  refine done_ (by kernel_rfl) ?_
  go_wp2
  try simp only [Exit.inBlock, Exit.then]
  have l0 := blk_cell HZ0_3.out 0
  have l1 := blk_cell HZ1_3.out 0
  have l2 := blk_cell HZ2_3.out 0
  exact bodyPost_ret (results_ccct rfl _ _ _ _ _ _ _ _  rfl rfl rfl  (ld_str l0) (ld_sl l1) (ld_bool l2)) rfl ⟨rfl, (((HB2.out.drew.setCell (p := ⟨w.heap.size + 1, 0, none⟩) (by show w.heap.size ≤ w.heap.size + 1; omega) _).setCell (p := ⟨w.heap.size + 1 + 1, 0, none⟩) (by show w.heap.size ≤ w.heap.size + 1 + 1; omega) _).setCell (p := ⟨w.heap.size + 1 + 1 + 1, 0, none⟩) (by show w.heap.size ≤ w.heap.size + 1 + 1 + 1; omega) _)⟩
set_option maxHeartbeats 3200000 in
set_option maxRecDepth 100000 in
theorem ans_some (w : World) (p : S30) (A3 : Option Addr) (c3 : Nat) (A4 : Option Addr) (c4 : Nat) {x r c0 c1 c2 c3' : Pk} {l : List Pk} {nm : ByteArray} (E : IsExt x r c0 c1 c2 c3' l nm) (cc : Pk) (hl : l = [cc]) (hcz : cc.data.length ≤ 1000000) (hrd : ∀ W, Below w.heap.size w W → Calls Tryz.prog 30 #[.agg #[.int .i64 p.f0, .int .i64 p.f1, .bool p.f2, .slice A3 p.f3.length c3, .slice A4 p.f4.length c4]] W fun e w' => ∃ b, e = .returned (.pointer (some ⟨b, 0, none⟩)) ∧ Pt w' b x ∧ Below W.heap.size W w') :
    Calls Tryz.prog 9 #[.agg #[.int .i64 p.f0, .int .i64 p.f1, .bool p.f2, .slice A3 p.f3.length c3, .slice A4 p.f4.length c4]] w fun e w' => ∃ A5 d5, e = .returned (.tuple #[.string nm, .slice A5 cc.data.length d5, .bool true, .bool true]) ∧ B8.C w' A5 cc.data.length cc.data ∧ Below w.heap.size w w' := by
  have hmf := mf
  obtain ⟨W0, hW0⟩ : ∃ W0, W0 = ((((w).alloc (.cells #[.int .i64 p.f0, .int .i64 p.f1, .bool p.f2, .slice A3 p.f3.length c3, .slice A4 p.f4.length c4] 30)).alloc (.cells #[.string ⟨#[]⟩] 9)).alloc (.cells #[.slice none 0 0] 22)).alloc (.cells #[.bool false] 4) := ⟨_, rfl⟩
  have hs0 : W0.heap.size = w.heap.size + 1 + 1 + 1 + 1 := by rw [hW0]; simp
  have hb0 : Below w.heap.size w W0 := by rw [hW0]; exact below_alloc (below_alloc (below_alloc (below_alloc (Below.refl _ _) _) _) _) _
  have hx0 : W0.heap[w.heap.size]? = some (.cells #[.int .i64 p.f0, .int .i64 p.f1, .bool p.f2, .slice A3 p.f3.length c3, .slice A4 p.f4.length c4] 30 (0, 0)) := by
    have := (blk_alloc (blk_alloc (blk_alloc (blk_new (w) (.cells #[.int .i64 p.f0, .int .i64 p.f1, .bool p.f2, .slice A3 p.f3.length c3, .slice A4 p.f4.length c4] 30)) (.cells #[.string ⟨#[]⟩] 9)) (.cells #[.slice none 0 0] 22)) (.cells #[.bool false] 4))
    rw [← hW0] at this
    exact this
  have hx1 : W0.heap[w.heap.size + 1]? = some (.cells #[.string ⟨#[]⟩] 9 (0, 0)) := by
    have := (blk_alloc (blk_alloc (blk_new ((w).alloc (.cells #[.int .i64 p.f0, .int .i64 p.f1, .bool p.f2, .slice A3 p.f3.length c3, .slice A4 p.f4.length c4] 30)) (.cells #[.string ⟨#[]⟩] 9)) (.cells #[.slice none 0 0] 22)) (.cells #[.bool false] 4))
    have e : ((w).alloc (.cells #[.int .i64 p.f0, .int .i64 p.f1, .bool p.f2, .slice A3 p.f3.length c3, .slice A4 p.f4.length c4] 30)).heap.size = w.heap.size + 1 := by simp
    rw [e, ← hW0] at this
    exact this
  have hx2 : W0.heap[w.heap.size + 1 + 1]? = some (.cells #[.slice none 0 0] 22 (0, 0)) := by
    have := (blk_alloc (blk_new (((w).alloc (.cells #[.int .i64 p.f0, .int .i64 p.f1, .bool p.f2, .slice A3 p.f3.length c3, .slice A4 p.f4.length c4] 30)).alloc (.cells #[.string ⟨#[]⟩] 9)) (.cells #[.slice none 0 0] 22)) (.cells #[.bool false] 4))
    have e : (((w).alloc (.cells #[.int .i64 p.f0, .int .i64 p.f1, .bool p.f2, .slice A3 p.f3.length c3, .slice A4 p.f4.length c4] 30)).alloc (.cells #[.string ⟨#[]⟩] 9)).heap.size = w.heap.size + 1 + 1 := by simp
    rw [e, ← hW0] at this
    exact this
  have hx3 : W0.heap[w.heap.size + 1 + 1 + 1]? = some (.cells #[.bool false] 4 (0, 0)) := by
    have := (blk_new ((((w).alloc (.cells #[.int .i64 p.f0, .int .i64 p.f1, .bool p.f2, .slice A3 p.f3.length c3, .slice A4 p.f4.length c4] 30)).alloc (.cells #[.string ⟨#[]⟩] 9)).alloc (.cells #[.slice none 0 0] 22)) (.cells #[.bool false] 4))
    have e : ((((w).alloc (.cells #[.int .i64 p.f0, .int .i64 p.f1, .bool p.f2, .slice A3 p.f3.length c3, .slice A4 p.f4.length c4] 30)).alloc (.cells #[.string ⟨#[]⟩] 9)).alloc (.cells #[.slice none 0 0] 22)).heap.size = w.heap.size + 1 + 1 + 1 := by simp
    rw [e, ← hW0] at this
    exact this
  have hcl : ∀ W, W = W0.alloc (.cells #[.bool false] 4) → Calls Tryz.prog 29 #[.pointer (some ⟨w.heap.size, 0, none⟩), .pointer (some ⟨w.heap.size + 1, 0, none⟩), .pointer (some ⟨w.heap.size + 1 + 1 + 1, 0, none⟩), .pointer (some ⟨w.heap.size + 1 + 1, 0, none⟩)] W fun e w' => e = .returned (.bool true) ∧ ((∃ A5 d5, w'.heap[w.heap.size + 1]? = some (.cells #[.string nm] 9 (0, 0)) ∧ w'.heap[w.heap.size + 1 + 1]? = some (.cells #[.slice A5 cc.data.length d5] 22 (0, 0)) ∧ w'.heap[w.heap.size + 1 + 1 + 1]? = some (.cells #[.bool true] 4 (0, 0)) ∧ B8.R 5 w' (W0.heap.size + 1) (fun _ => True) (.slice A5 cc.data.length d5) cc.data) ∧ Below w.heap.size w w') ∧ w'.heap[W0.heap.size]? = some (.cells #[.bool false] 4 (0, 0)) := by
    intro W hW
    have hbW : Below w.heap.size w W := by rw [hW]; exact below_alloc hb0 _
    have hsW : W.heap.size = W0.heap.size + 1 := by rw [hW]; simp
    have hbl : W.heap[W0.heap.size]? = some (.cells #[.bool false] 4 (0, 0)) := by rw [hW]; exact blk_new _ _
    have y0 := blk_alloc hx0 (.cells #[.bool false] 4)
    rw [← hW] at y0
    have y1 := blk_alloc hx1 (.cells #[.bool false] 4)
    rw [← hW] at y1
    have y2 := blk_alloc hx2 (.cells #[.bool false] 4)
    rw [← hW] at y2
    have y3 := blk_alloc hx3 (.cells #[.bool false] 4)
    rw [← hW] at y3
    refine (ansCl1 p A3 c3 A4 c4 E cc hl hcz (hrd W hbW) y0 y1 y3 y2).mono ?_
    rintro e w' ⟨he, q0, q1, ⟨A5, d5, q2, hr⟩, ho⟩
    rw [hsW] at hr
    refine ⟨he, ⟨⟨A5, d5, q0, q2, q1, hr⟩, hbW.trans (ho.below hbW.size (fun i hi => by omega))⟩, (ho.block _ (by omega) (by omega)).trans hbl⟩
  have HS := Lib.hid (safely_answer #[.pointer (some ⟨w.heap.size, 0, none⟩), .pointer (some ⟨w.heap.size + 1, 0, none⟩), .pointer (some ⟨w.heap.size + 1 + 1 + 1, 0, none⟩), .pointer (some ⟨w.heap.size + 1 + 1, 0, none⟩)] true (fun w' => (∃ A5 d5, w'.heap[w.heap.size + 1]? = some (.cells #[.string nm] 9 (0, 0)) ∧ w'.heap[w.heap.size + 1 + 1]? = some (.cells #[.slice A5 cc.data.length d5] 22 (0, 0)) ∧ w'.heap[w.heap.size + 1 + 1 + 1]? = some (.cells #[.bool true] 4 (0, 0)) ∧ B8.R 5 w' (W0.heap.size + 1) (fun _ => True) (.slice A5 cc.data.length d5) cc.data) ∧ Below w.heap.size w w') W0 hcl)
  have HS0 := Lib.hid hs0
  have HW0 := Lib.hid hW0
  clear hrd hcl hs0 hb0 hW0 hx0 hx1 hx2 hx3 E hl hcz
  go_enter Tryz.func9, Tryz.ntmps9
  go_wp2_with (go_at_call 28
               rw [← HW0.out]
               with_reducible refine HS.out.mono ?_
               rintro e w' ⟨rfl, W1, ⟨⟨A5, d5, g0, g1, g2, gr⟩, hb1⟩, rfl⟩
               have z0 := blk_far g0 (p := ⟨W0.heap.size, 0, none⟩) (by have := HS0.out; show w.heap.size + 1 ≠ W0.heap.size; omega) (.bool true)
               have z1 := blk_far g1 (p := ⟨W0.heap.size, 0, none⟩) (by have := HS0.out; show w.heap.size + 1 + 1 ≠ W0.heap.size; omega) (.bool true)
               have z2 := blk_far g2 (p := ⟨W0.heap.size, 0, none⟩) (by have := HS0.out; show w.heap.size + 1 + 1 + 1 ≠ W0.heap.size; omega) (.bool true)
               have hb2 : Below w.heap.size w (W1.setCell ⟨W0.heap.size, 0, none⟩ (.bool true)) := hb1.setCell (p := ⟨W0.heap.size, 0, none⟩) (by have := HS0.out; show w.heap.size ≤ W0.heap.size; omega) _
               replace gr := Kd.R_far (Kd.R_mono (ok' := fun k => k ≠ W0.heap.size) (Kd.R_bound gr) (fun k hk => by have := hk.2.1; omega)) (p := ⟨W0.heap.size, 0, none⟩) (fun k hk => hk) (.bool true)
               obtain ⟨W2, hW2⟩ : ∃ W2, W2 = W1.setCell ⟨W0.heap.size, 0, none⟩ (.bool true) := ⟨_, rfl⟩
               rw [← hW2] at z0 z1 z2 hb2 gr ⊢
               have HB2 := Lib.hid hb2
               have HZ0 := Lib.hid z0
               have HZ1 := Lib.hid z1
               have HZ2 := Lib.hid z2
               have HGR := Lib.hid gr
               clear gr
               clear hb1 hb2 hW2 z0 g0 z1 g1 z2 g2)
  refine start_ (n := 7) (S := fun w' => w'.cell? ⟨w.heap.size + 1, 0, none⟩ = some (.string nm) ∧ w'.cell? ⟨w.heap.size + 1 + 1, 0, none⟩ = some (.slice A5 cc.data.length d5) ∧ w'.cell? ⟨w.heap.size + 1 + 1 + 1, 0, none⟩ = some (.bool true)) (ds := []) #[nN,nN,nN,nN,nN,nN,nN] (by kernel_rfl) rfl rfl ⟨blk_cell HZ0.out 0, blk_cell HZ1.out 0, blk_cell HZ2.out 0⟩ (fun hHeld => ?_)
  refine take_ (i := 0) (N := some 10) (v := ?_) (a' := ?_) #[yY,nN,nN,nN,nN,nN,nN] rfl rfl (by kernel_rfl) (fun _ _ _ h => h) (Or.inl ⟨by rfl, ?_⟩) hHeld ?_ ?_
  rotate_left
  · rintro w' ⟨s0, s1, s2⟩
    go_simp
    with_reducible rfl
  rotate_left
  · simp only [Act.put, List.setIfInBounds_toArray, List.set_cons_zero, List.set_cons_succ, i64_w, i32_w]
    rfl
  refine take_ (i := 1) (N := some 11) (v := ?_) (a' := ?_) #[yY,yY,nN,nN,nN,nN,nN] rfl rfl (by kernel_rfl) (fun _ _ _ h => h) (Or.inl ⟨by rfl, ?_⟩) hHeld ?_ ?_
  rotate_left
  · rintro w' ⟨s0, s1, s2⟩
    go_simp
    with_reducible rfl
  rotate_left
  · simp only [Act.put, List.setIfInBounds_toArray, List.set_cons_zero, List.set_cons_succ, i64_w, i32_w]
    rfl
  refine take_ (i := 2) (N := some 12) (v := ?_) (a' := ?_) #[yY,yY,yY,nN,nN,nN,nN] rfl rfl (by kernel_rfl) (fun _ _ _ h => h) (Or.inl ⟨by rfl, ?_⟩) hHeld ?_ ?_
  rotate_left
  · rintro w' ⟨s0, s1, s2⟩
    go_simp
    with_reducible rfl
  rotate_left
  · simp only [Act.put, List.setIfInBounds_toArray, List.set_cons_zero, List.set_cons_succ, i64_w, i32_w]
    rfl
  refine one_ (i := 3) (N := none) #[yY,yY,yY,yY,nN,nN,nN] rfl rfl (by kernel_rfl) (by decide) (fun K hK => ?_)
  have kc_ := blk_cell HZ0.out 0
  have kf_ := blk_frozen HZ0.out 0
  refine skip_ (w1 := ?_) (by rfl) rfl ?_ ?_
  rotate_left
  · go_simp
    rfl
  clear kc_ kf_
  have HZ0_1 := Lib.hid (blk_set HZ0.out 0 (.string nm))
  have HZ1_1 := Lib.hid (blk_far HZ1.out (p := ⟨w.heap.size + 1, 0, none⟩) (by show w.heap.size + 1 + 1 ≠ w.heap.size + 1; omega) (.string nm))
  have HZ2_1 := Lib.hid (blk_far HZ2.out (p := ⟨w.heap.size + 1, 0, none⟩) (by show w.heap.size + 1 + 1 + 1 ≠ w.heap.size + 1; omega) (.string nm))
  refine hK.out _ _ ⟨blk_cell HZ0_1.out 0, blk_cell HZ1_1.out 0, blk_cell HZ2_1.out 0⟩ (fun hHeld => ?_)
  clear hK K
  refine one_ (i := 4) (N := none) #[yY,yY,yY,yY,yY,nN,nN] rfl rfl (by kernel_rfl) (by decide) (fun K hK => ?_)
  have kc_ := blk_cell HZ1_1.out 0
  have kf_ := blk_frozen HZ1_1.out 0
  refine skip_ (w1 := ?_) (by rfl) rfl ?_ ?_
  rotate_left
  · go_simp
    rfl
  clear kc_ kf_
  have HZ0_2 := Lib.hid (blk_far HZ0_1.out (p := ⟨w.heap.size + 1 + 1, 0, none⟩) (by show w.heap.size + 1 ≠ w.heap.size + 1 + 1; omega) (.slice A5 cc.data.length d5))
  have HZ1_2 := Lib.hid (blk_set HZ1_1.out 0 (.slice A5 cc.data.length d5))
  have HZ2_2 := Lib.hid (blk_far HZ2_1.out (p := ⟨w.heap.size + 1 + 1, 0, none⟩) (by show w.heap.size + 1 + 1 + 1 ≠ w.heap.size + 1 + 1; omega) (.slice A5 cc.data.length d5))
  refine hK.out _ _ ⟨blk_cell HZ0_2.out 0, blk_cell HZ1_2.out 0, blk_cell HZ2_2.out 0⟩ (fun hHeld => ?_)
  clear hK K
  refine one_ (i := 5) (N := none) #[yY,yY,yY,yY,yY,yY,nN] rfl rfl (by kernel_rfl) (by decide) (fun K hK => ?_)
  have kc_ := blk_cell HZ2_2.out 0
  have kf_ := blk_frozen HZ2_2.out 0
  refine skip_ (w1 := ?_) (by rfl) rfl ?_ ?_
  rotate_left
  · go_simp
    rfl
  clear kc_ kf_
  have HZ0_3 := Lib.hid (blk_far HZ0_2.out (p := ⟨w.heap.size + 1 + 1 + 1, 0, none⟩) (by show w.heap.size + 1 ≠ w.heap.size + 1 + 1 + 1; omega) (.bool true))
  have HZ1_3 := Lib.hid (blk_far HZ1_2.out (p := ⟨w.heap.size + 1 + 1 + 1, 0, none⟩) (by show w.heap.size + 1 + 1 ≠ w.heap.size + 1 + 1 + 1; omega) (.bool true))
  have HZ2_3 := Lib.hid (blk_set HZ2_2.out 0 (.bool true))
  refine hK.out _ _ ⟨blk_cell HZ0_3.out 0, blk_cell HZ1_3.out 0, blk_cell HZ2_3.out 0⟩ (fun hHeld => ?_)
  clear hK K
  refine pure_ (i := 6) (N := some 5) (v := ?_) (a' := ?_) #[yY,yY,yY,yY,yY,yY,yY] rfl rfl (by kernel_rfl) (fun _ _ _ h => h) (Or.inl ⟨by rfl, ?_⟩) ?_ ?_
  rotate_left
  · intro w'
    go_simp
    with_reducible rfl
  rotate_left
  · simp only [Act.put, List.setIfInBounds_toArray, List.set_cons_zero, List.set_cons_succ, i64_w, i32_w]
    rfl
  refine done_ (by kernel_rfl) ?_
  go_wp2
  try simp only [Exit.inBlock, Exit.then]
  have l0 := blk_cell HZ0_3.out 0
  have l1 := blk_cell HZ1_3.out 0
  have l2 := blk_cell HZ2_3.out 0
  exact bodyPost_ret (results_ccct rfl _ _ _ _ _ _ _ _  rfl rfl rfl  (ld_str l0) (ld_sl l1) (ld_bool l2)) rfl ⟨A5, d5, rfl, (Kd.R_reads' (Kd.R_far (Kd.R_far (Kd.R_far (Kd.R_mono (ok' := fun k => k ≠ w.heap.size + 1 ∧ k ≠ w.heap.size + 1 + 1 ∧ k ≠ w.heap.size + 1 + 1 + 1) (Kd.R_bound HGR.out) (fun k hk => by have := hk.2.1; have := HS0.out; omega)) (p := ⟨w.heap.size + 1, 0, none⟩) (fun k hk => hk.1) (.string nm)) (p := ⟨w.heap.size + 1 + 1, 0, none⟩) (fun k hk => hk.2.1) (.slice A5 cc.data.length d5)) (p := ⟨w.heap.size + 1 + 1 + 1, 0, none⟩) (fun k hk => hk.2.2) (.bool true))).2.2, (((HB2.out.drew.setCell (p := ⟨w.heap.size + 1, 0, none⟩) (by show w.heap.size ≤ w.heap.size + 1; omega) _).setCell (p := ⟨w.heap.size + 1 + 1, 0, none⟩) (by show w.heap.size ≤ w.heap.size + 1 + 1; omega) _).setCell (p := ⟨w.heap.size + 1 + 1 + 1, 0, none⟩) (by show w.heap.size ≤ w.heap.size + 1 + 1 + 1; omega) _)⟩
end Go.Proofs.YteockihoefbmdaaGreatDoor.Ber
