/- The reference's builders of packets: spec.Octets, List, tagged, operation, Truth, Number leave a packet that reads as the tree, in blocks from b on. Strings are at most as long as Go's own limit. -/
import Derived.Test.YtbmcpjkhnhbjdaaDoorNewString
import Derived.Test.YtbmcpjkhnhbjdaaDoorAnswer
import Derived.Test.YtbmcpjkhnhbjdaaDoorWhole
import Derived.Test.YtbmcpjkhnhbjdaaDoorPFnEncodex1
namespace Go.Proofs.YtbmcpjkhnhbjdaaDoor.Ber
open Go.RowKit Go.Proofs.YtbmcpjkhnhbjdaaDoorW.PrintWords Go.Proofs.YtbmcpjkhnhbjdaaDoor.PFnEncode Go.Proofs.YtbmcpjkhnhbjdaaDoor.Buf Go.Proofs.YtbmcpjkhnhbjdaaDoor.Pk Go.Proofs.YtbmcpjkhnhbjdaaDoor.Within Go.Proofs.YtbmcpjkhnhbjdaaDoor.Num
set_option linter.unusedVariables false
set_option linter.unusedSimpArgs false

/-- What a builder leaves: the packet x, in blocks from b on; the old memory as it was. -/
def Nw (b : Nat) (w : World) (x : S33) (e : Ending) (w' : World) : Prop :=
  ∃ A3 c3 A4 c4, e = .returned (.agg #[.int .i64 x.f0, .int .i64 x.f1, .bool x.f2, .slice A3 x.f3.length c3, .slice A4 x.f4.length c4]) ∧ x.f3.length ≤ c3 ∧ Kd.F (Kd.int .u8) w' (fun k => b ≤ k) A3 x.f3.length x.f3 ∧ x.f4.length ≤ c4 ∧ Kd.F k33 w' (fun k => b ≤ k) A4 x.f4.length x.f4 ∧ Below w.heap.size w w'

theorem nw_of {b : Nat} {w w' : World} (x : S33) {b3 b4 e3 : Nat} {ok3 ok4 : Nat → Prop} {v3 v4 : Value} (h3 : Kd.R (Kd.int .u8) e3 w' b3 ok3 v3 x.f3) (h4 : Kd.V k33 33 w' b4 ok4 v4 x.f4) (hb : Below w.heap.size w w') (o3 : ∀ k, ok3 k → b3 ≤ k → b ≤ k) (o4 : ∀ k, ok4 k → b ≤ k) :
    Nw b w x (.returned (.agg #[.int .i64 x.f0, .int .i64 x.f1, .bool x.f2, v3, v4])) w' := by
  obtain ⟨A3, c3, rfl⟩ := Kd.R_slice h3
  obtain ⟨A4, c4, rfl⟩ := Kd.V_slice h4
  exact ⟨A3, c3, A4, c4, rfl, (Kd.R_reads' h3).2.1, Kd.F_mono (Kd.R_F (Kd.R_bound h3)) (fun k hk => o3 k hk.1 hk.2.1), (Kd.V_reads' h4).2.1, Kd.F_mono (Kd.V_F h4) o4, hb⟩

theorem list_nw {b : Nat} (l : List S33) (A : Option Addr) (c : Nat) (w : World) (h : Kd.F k33 w (fun k => b ≤ k) A l.length l) (hl : l.length ≤ c) (hbw : b ≤ w.heap.size) :
    Calls Tryd.prog 48 #[.slice A l.length c] w (Nw b w ⟨0, 16, true, [], l⟩) := by
  refine (spec_List.calls (fun k => b ≤ k) A c l _ _ _ _ _ w (Kd.V_mk hl h) rfl).mono ?_
  rintro e w' ⟨v3, v4, rfl, h3, h4, hb⟩
  exact nw_of ⟨0, 16, true, [], l⟩ h3 h4 hb (fun k _ h => Nat.le_trans hbw h) (fun k hk => hk.1.elim id (fun h => Nat.le_trans hbw h))
theorem operation_nw {b : Nat} (t : Int) (l : List S33) (A : Option Addr) (c : Nat) (w : World) (h : Kd.F k33 w (fun k => b ≤ k) A l.length l) (hl : l.length ≤ c) (hbw : b ≤ w.heap.size) :
    Calls Tryd.prog 46 #[.int .i64 t, .slice A l.length c] w (Nw b w ⟨1, t, true, [], l⟩) := by
  refine (spec_operation.calls t (fun k => b ≤ k) A c l _ _ _ _ _ w (Kd.V_mk hl h) rfl).mono ?_
  rintro e w' ⟨v3, v4, rfl, h3, h4, hb⟩
  exact nw_of ⟨1, t, true, [], l⟩ h3 h4 hb (fun k _ h => Nat.le_trans hbw h) (fun k hk => hk.1.elim id (fun h => Nat.le_trans hbw h))
theorem truth_nw (t : Bool) (w : World) : Calls Tryd.prog 50 #[.bool t] w (Nw w.heap.size w ⟨0, 1, false, [if t then 255 else 0], []⟩) := by
  cases t with
  | true =>
    refine (spec_Truth.calls true _ _ _ _ _ w rfl).mono ?_
    rintro e w' ⟨v3, v4, rfl, h3, h4, hb⟩
    exact nw_of ⟨0, 1, false, [255], []⟩ h3 (Kd.R_V (base' := 0) (Kd.R_bound h4)) hb (fun _ _ h => h) (fun _ h => h.2.1)
  | false =>
    refine (spec_Truth.calls false _ _ _ _ _ w rfl).mono ?_
    rintro e w' ⟨v3, v4, rfl, h3, h4, hb⟩
    exact nw_of ⟨0, 1, false, [0], []⟩ h3 (Kd.R_V (base' := 0) (Kd.R_bound h4)) hb (fun _ _ h => h) (fun _ h => h.2.1)
theorem number_nw (n : Int) (h : -9223372036854775808 ≤ n ∧ n ≤ 9223372036854775807) (w : World) : Calls Tryd.prog 54 #[.int .i64 n] w (Nw w.heap.size w ⟨0, 2, false, whole n, []⟩) := by
  have hn : spec_Number.f 8 n = some (0, 2, false, whole n, []) := by
    unfold spec_Number.f
    rw [whole_spec n h]
    rfl
  refine (spec_Number.calls 8 n _ _ _ _ _ w hn).mono ?_
  rintro e w' ⟨v3, v4, rfl, h3, h4, hb⟩
  exact nw_of ⟨0, 2, false, whole n, []⟩ h3 (Kd.R_V (base' := 0) (Kd.R_bound h4)) hb (fun _ _ h => h) (fun _ h => h.2.1)

/-- the end of a function that stores its packet and hands it back -/
theorem nw_end {b B n : Nat} {w W W3 : World} {x : S33} {A5 A6 : Option Addr} {c5 c6 : Nat} {z0 z1 z2 z3 z4 : Value} (hb : Below w.heap.size w W) (hn : w.heap.size ≤ n) (hnB : ∀ k, B ≤ k → k ≠ n) (hbB : b ≤ B)
    (hres : W.heap[n]? = some (.cells #[z0, z1, z2, z3, z4] 33 (0, 0))) (l5 : x.f3.length ≤ c5) (g5 : Kd.F (Kd.int .u8) W (fun k => B ≤ k) A5 x.f3.length x.f3) (l6 : x.f4.length ≤ c6) (g6 : Kd.F k33 W (fun k => B ≤ k) A6 x.f4.length x.f4)
    (hW3 : W3 = (((((W.setCell ⟨n, 0, none⟩ (.int .i64 x.f0)).setCell ⟨n, 1, none⟩ (.int .i64 x.f1)).setCell ⟨n, 2, none⟩ (.bool x.f2)).setCell ⟨n, 3, none⟩ (.slice A5 x.f3.length c5)).setCell ⟨n, 4, none⟩ (.slice A6 x.f4.length c6))) :
    W3.heap[n]? = some (.cells #[.int .i64 x.f0, .int .i64 x.f1, .bool x.f2, .slice A5 x.f3.length c5, .slice A6 x.f4.length c6] 33 (0, 0)) ∧ Nw b w x (.returned (.agg #[.int .i64 x.f0, .int .i64 x.f1, .bool x.f2, .slice A5 x.f3.length c5, .slice A6 x.f4.length c6])) W3 := by
  have h5 := blk_set (blk_set (blk_set (blk_set (blk_set hres 0 (.int .i64 x.f0)) 1 (.int .i64 x.f1)) 2 (.bool x.f2)) 3 (.slice A5 x.f3.length c5)) 4 (.slice A6 x.f4.length c6)
  rw [← hW3] at h5
  have key : Below w.heap.size w W3 := by
    rw [hW3]
    exact ((((hb.setCell (p := ⟨n, 0, none⟩) hn _).setCell (p := ⟨n, 1, none⟩) hn _).setCell (p := ⟨n, 2, none⟩) hn _).setCell (p := ⟨n, 3, none⟩) hn _).setCell (p := ⟨n, 4, none⟩) hn _
  have f5 : Kd.F (Kd.int .u8) W3 (fun k => B ≤ k) A5 x.f3.length x.f3 := by
    rw [hW3]
    exact Kd.F_far (Kd.F_far (Kd.F_far (Kd.F_far (Kd.F_far g5 (p := ⟨n, 0, none⟩) hnB _) (p := ⟨n, 1, none⟩) hnB _) (p := ⟨n, 2, none⟩) hnB _) (p := ⟨n, 3, none⟩) hnB _) (p := ⟨n, 4, none⟩) hnB _
  have f6 : Kd.F k33 W3 (fun k => B ≤ k) A6 x.f4.length x.f4 := by
    rw [hW3]
    exact Kd.F_far (Kd.F_far (Kd.F_far (Kd.F_far (Kd.F_far g6 (p := ⟨n, 0, none⟩) hnB _) (p := ⟨n, 1, none⟩) hnB _) (p := ⟨n, 2, none⟩) hnB _) (p := ⟨n, 3, none⟩) hnB _) (p := ⟨n, 4, none⟩) hnB _
  exact ⟨h5, A5, c5, A6, c6, rfl, l5, Kd.F_mono f5 (fun k hk => Nat.le_trans hbB hk), l6, Kd.F_mono f6 (fun k hk => Nat.le_trans hbB hk), key⟩

/-- the bytes of a text that was converted -/
theorem conv_F (W : World) (s : ByteArray) (hs : s.size ≤ 140737488355328) : Kd.F (Kd.int .u8) (Lib.bytesWorld W 5 s) (fun k => W.heap.size ≤ k) (some ⟨W.heap.size, 0, none⟩) (bytesOf s).length (bytesOf s) := by
  intro W' hW
  have h0 := bytes_reads W 5 s (by omega)
  rw [show s.size = (bytesOf s).length from (bytesOf_length s).symm] at h0
  have hc : (Kd.int .u8).C (Lib.bytesWorld W 5 s) (some ⟨W.heap.size, 0, none⟩) (bytesOf s).length (bytesOf s) := Kd.C_of_reads (d := 0) h0
  have hk : W'.heap[W.heap.size]? = (Lib.bytesWorld W 5 s).heap[W.heap.size]? := hW _ (Nat.le_refl _) (by rw [Lib.bytesWorld_size]; omega)
  obtain ⟨h1, h2, h3⟩ := hc
  refine ⟨h1, h2, fun hp => ?_⟩
  obtain ⟨ad, had, hall⟩ := h3 hp
  injection had with had
  subst had
  refine ⟨_, rfl, fun j p hj => ?_⟩
  obtain ⟨c, hc1, hc2, hc3⟩ := hall j p hj
  refine ⟨c, hc1, hc2, fun i u hu => ?_⟩
  rw [← hc3 i u hu]
  exact World.cell?_of_block (by rw [Lib.block_add]; exact hk)

set_option maxHeartbeats 1600000 in
set_option maxRecDepth 100000 in
theorem octets_nw (a0 : ByteArray) (w : World) (hs : a0.size ≤ 140737488355328) : Calls Tryd.prog 47 #[.string a0] w (Nw w.heap.size w ⟨0, 4, false, bytesOf a0, []⟩) := by
  have hcv := conv_bytes a0
  have hl : a0.size = (bytesOf a0).length := (bytesOf_length a0).symm
  obtain ⟨Z, hZ⟩ : ∃ Z : Obj, Z = (Obj.cells #[.int .i64 0, .int .i64 0, .bool false, .slice none 0 0, .slice none 0 0] 33) := ⟨_, rfl⟩
  have hz : (Lib.bytesWorld (w.alloc Z) 5 a0).heap[w.heap.size]? = some (.cells #[.int .i64 0, .int .i64 0, .bool false, .slice none 0 0, .slice none 0 0] 33 (0, 0)) := by
    rw [Lib.bytesWorld_at_old _ _ _ _ (by simp), hZ]
    exact blk_new _ _
  have hb1 : Below w.heap.size w (w.alloc Z) := below_alloc (Below.refl _ _) _
  have hb2 : Below w.heap.size w (Lib.bytesWorld (w.alloc Z) 5 a0) := bytes_below hb1 hb1.size _ _
  have hrd : Kd.F (Kd.int .u8) (Lib.bytesWorld (w.alloc Z) 5 a0) (fun k => w.heap.size + 1 ≤ k) (some ⟨w.heap.size + 1, 0, none⟩) (bytesOf a0).length (bytesOf a0) := by
    have := conv_F (w.alloc Z) a0 hs
    have e : (w.alloc Z).heap.size = w.heap.size + 1 := by simp
    rw [e] at this
    exact this
  have hcap : (bytesOf a0).length ≤ grownCap (w.alloc Z) (bytesOf a0).length 0 5 := grownCap_ge _ _ _ _
  subst hZ
  have k0 := blk_cell hz 0
  have k1 := blk_cell hz 1
  have k2 := blk_cell hz 2
  have k3 := blk_cell hz 3
  have k4 := blk_cell hz 4
  have kf0 := blk_frozen hz 0
  have kf1 := blk_frozen hz 1
  have kf2 := blk_frozen hz 2
  have kf3 := blk_frozen hz 3
  have kf4 := blk_frozen hz 4
  have HZ := Lib.hid hz
  have HB2 := Lib.hid hb2
  have HRD := Lib.hid hrd
  have HL := Lib.hid hl
  have HCAP := Lib.hid hcap
  clear hz hb1 hb2 hrd hl hcap
  go_enter Tryd.func47, Tryd.ntmps47
  go_wp2
  rw [HL.out]
  obtain ⟨h5, hend⟩ := nw_end (b := w.heap.size) (B := w.heap.size + 1) (n := w.heap.size) (x := ⟨0, 4, false, bytesOf a0, []⟩) HB2.out (Nat.le_refl _) (fun k hk => by omega) (Nat.le_succ _) HZ.out HCAP.out HRD.out (Nat.le_refl _) (Kd.F_nil _ _ _) rfl
  try simp only [Exit.inBlock, Exit.then]
  exact bodyPost_ret (results_c rfl _ _ _ _ _ _ _ rfl h5 Tryd.underlying33 rfl size33) rfl hend

set_option maxHeartbeats 1600000 in
set_option maxRecDepth 100000 in
theorem tagged_nw {b : Nat} (k t : Int) (x : S33) (A3 : Option Addr) (c3 : Nat) (A4 : Option Addr) (c4 : Nat) (w : World) (l3 : x.f3.length ≤ c3) (h3 : Kd.F (Kd.int .u8) w (fun k => b ≤ k) A3 x.f3.length x.f3) (l4 : x.f4.length ≤ c4) (h4 : Kd.F k33 w (fun k => b ≤ k) A4 x.f4.length x.f4) (hbw : b ≤ w.heap.size) :
    Calls Tryd.prog 51 #[.int .i64 k, .int .i64 t, .agg #[.int .i64 x.f0, .int .i64 x.f1, .bool x.f2, .slice A3 x.f3.length c3, .slice A4 x.f4.length c4]] w (Nw b w ⟨k, t, x.f2, x.f3, x.f4⟩) := by
  have H3 := Lib.hid h3
  have H4 := Lib.hid h4
  clear h3 h4
  go_enter Tryd.func51, Tryd.ntmps51
  go_wp2
  have h5 : ((w.alloc (.cells #[.int .i64 k, .int .i64 t, .bool x.f2, .slice A3 x.f3.length c3, .slice A4 x.f4.length c4] 33)).alloc (.cells #[.int .i64 k, .int .i64 t, .bool x.f2, .slice A3 x.f3.length c3, .slice A4 x.f4.length c4] 33)).heap[w.heap.size + 1]? = some (.cells #[.int .i64 k, .int .i64 t, .bool x.f2, .slice A3 x.f3.length c3, .slice A4 x.f4.length c4] 33 (0, 0)) := by
    have := blk_new (w.alloc (.cells #[.int .i64 k, .int .i64 t, .bool x.f2, .slice A3 x.f3.length c3, .slice A4 x.f4.length c4] 33)) (.cells #[.int .i64 k, .int .i64 t, .bool x.f2, .slice A3 x.f3.length c3, .slice A4 x.f4.length c4] 33)
    simpa using this
  try simp only [Exit.inBlock, Exit.then]
  exact bodyPost_ret (results_c rfl _ _ _ _ _ _ _ rfl h5 Tryd.underlying33 rfl size33) rfl ⟨A3, c3, A4, c4, rfl, l3, Kd.F_alloc (Kd.F_alloc H3.out _) _, l4, Kd.F_alloc (Kd.F_alloc H4.out _) _, below_alloc (below_alloc (Below.refl _ _) _) _⟩

/-- packets beside each other in a block -/
theorem F_block {W : World} {n b : Nat} {arr : Array Value} {xs : List S33} (hb : W.heap[n]? = some (.cells arr 33 (0, 0))) (hbn : b ≤ n) (hm : xs.length ≤ 9223372036854775807)
    (hr : Reps (fun x c => Kd.FK k33 W (fun k => b ≤ k) x c) 5 xs arr.toList) : Kd.F k33 W (fun k => b ≤ k) (some ⟨n, 0, none⟩) xs.length xs := by
  intro W' hW
  have hn : W'.heap[n]? = some (.cells arr 33 (0, 0)) := (hW n hbn (blk_lt hb)).trans hb
  refine ⟨rfl, hm, fun _ => ⟨⟨n, 0, none⟩, rfl, fun j p hj => ⟨(arr.toList.drop (j * 5)).take 5, ?_, hr.2 j p hj W' hW, fun i u hu => ?_⟩⟩⟩
  · have hjl := (List.getElem?_eq_some_iff.1 hj).1
    have := hr.1
    rw [List.length_take, List.length_drop, this]
    show min 5 (xs.length * 5 - j * 5) = 5
    omega
  · have hi : i < 5 := by
      have := (List.getElem?_eq_some_iff.1 hu).1
      rw [List.length_take] at this
      omega
    rw [List.getElem?_take_of_lt hi, List.getElem?_drop] at hu
    have := blk_cell hn (j * 5 + i)
    rw [← Array.getElem?_toList, hu] at this
    rw [← this]
    congr 1
    show Addr.add ⟨n, 0, none⟩ (j * 5 + i) = _
    unfold Addr.add
    simp
    intros
    omega

/-- one packet's cells -/
def cellsP (x : S33) (A3 : Option Addr) (c3 : Nat) (A4 : Option Addr) (c4 : Nat) : List Value := [.int .i64 x.f0, .int .i64 x.f1, .bool x.f2, .slice A3 x.f3.length c3, .slice A4 x.f4.length c4]
/-- a packet that can be laid into a block -/
def Lies (b : Nat) (W : World) (x : S33) (A3 : Option Addr) (c3 : Nat) (A4 : Option Addr) (c4 : Nat) : Prop :=
  x.f3.length ≤ c3 ∧ Kd.F (Kd.int .u8) W (fun k => b ≤ k) A3 x.f3.length x.f3 ∧ x.f4.length ≤ c4 ∧ Kd.F k33 W (fun k => b ≤ k) A4 x.f4.length x.f4
theorem Lies.below {b : Nat} {W W' : World} {x : S33} {A3 : Option Addr} {c3 : Nat} {A4 : Option Addr} {c4 : Nat} (h : Lies b W x A3 c3 A4 c4) (hb : Below W.heap.size W W') : Lies b W' x A3 c3 A4 c4 := ⟨h.1, Kd.F_below h.2.1 hb, h.2.2.1, Kd.F_below h.2.2.2 hb⟩
theorem Lies.low {b b' : Nat} {W : World} {x : S33} {A3 : Option Addr} {c3 : Nat} {A4 : Option Addr} {c4 : Nat} (h : Lies b W x A3 c3 A4 c4) (hb : b' ≤ b) : Lies b' W x A3 c3 A4 c4 := ⟨h.1, Kd.F_mono h.2.1 (fun k hk => Nat.le_trans hb hk), h.2.2.1, Kd.F_mono h.2.2.2 (fun k hk => Nat.le_trans hb hk)⟩
theorem Lies.fk {b : Nat} {W : World} {x : S33} {A3 : Option Addr} {c3 : Nat} {A4 : Option Addr} {c4 : Nat} (h : Lies b W x A3 c3 A4 c4) : Kd.FK k33 W (fun k => b ≤ k) x (cellsP x A3 c3 A4 c4) := k33_mkF W _ x h.1 h.2.1 h.2.2.1 h.2.2.2
theorem Nw.open {b : Nat} {w : World} {x : S33} {e : Ending} {w' : World} (h : Nw b w x e w') : ∃ A3 c3 A4 c4, e = .returned (.agg #[.int .i64 x.f0, .int .i64 x.f1, .bool x.f2, .slice A3 x.f3.length c3, .slice A4 x.f4.length c4]) ∧ Lies b w' x A3 c3 A4 c4 ∧ Below w.heap.size w w' := by
  obtain ⟨A3, c3, A4, c4, he, l3, h3, l4, h4, hb⟩ := h
  exact ⟨A3, c3, A4, c4, he, ⟨l3, h3, l4, h4⟩, hb⟩
theorem Nw.low {b b' : Nat} {w : World} {x : S33} {e : Ending} {w' : World} (h : Nw b w x e w') (hb : b' ≤ b) : Nw b' w x e w' := by
  obtain ⟨A3, c3, A4, c4, he, hl, hbe⟩ := h.open
  obtain ⟨l3, h3, l4, h4⟩ := hl.low hb
  exact ⟨A3, c3, A4, c4, he, l3, h3, l4, h4, hbe⟩

theorem F1 {W : World} {n b : Nat} {x : S33} {A3 : Option Addr} {c3 : Nat} {A4 : Option Addr} {c4 : Nat} (hb : W.heap[n]? = some (.cells #[.int .i64 x.f0, .int .i64 x.f1, .bool x.f2, .slice A3 x.f3.length c3, .slice A4 x.f4.length c4] 33 (0, 0))) (hbn : b ≤ n) (hx : Lies b W x A3 c3 A4 c4) : Kd.F k33 W (fun k => b ≤ k) (some ⟨n, 0, none⟩) [x].length [x] :=
  F_block hb hbn (by simp) (Reps.snoc (Reps.none _ 5) hx.fk rfl)
theorem F2 {W : World} {n b : Nat} {x y : S33} {A3 : Option Addr} {c3 : Nat} {A4 : Option Addr} {c4 : Nat} {B3 : Option Addr} {d3 : Nat} {B4 : Option Addr} {d4 : Nat} (hb : W.heap[n]? = some (.cells #[.int .i64 x.f0, .int .i64 x.f1, .bool x.f2, .slice A3 x.f3.length c3, .slice A4 x.f4.length c4, .int .i64 y.f0, .int .i64 y.f1, .bool y.f2, .slice B3 y.f3.length d3, .slice B4 y.f4.length d4] 33 (0, 0))) (hbn : b ≤ n) (hx : Lies b W x A3 c3 A4 c4) (hy : Lies b W y B3 d3 B4 d4) : Kd.F k33 W (fun k => b ≤ k) (some ⟨n, 0, none⟩) [x, y].length [x, y] :=
  F_block hb hbn (by simp) (Reps.snoc (Reps.snoc (Reps.none _ 5) hx.fk rfl) hy.fk rfl)
theorem F3 {W : World} {n b : Nat} {x y z : S33} {A3 : Option Addr} {c3 : Nat} {A4 : Option Addr} {c4 : Nat} {B3 : Option Addr} {d3 : Nat} {B4 : Option Addr} {d4 : Nat} {D3 : Option Addr} {e3 : Nat} {D4 : Option Addr} {e4 : Nat} (hb : W.heap[n]? = some (.cells #[.int .i64 x.f0, .int .i64 x.f1, .bool x.f2, .slice A3 x.f3.length c3, .slice A4 x.f4.length c4, .int .i64 y.f0, .int .i64 y.f1, .bool y.f2, .slice B3 y.f3.length d3, .slice B4 y.f4.length d4, .int .i64 z.f0, .int .i64 z.f1, .bool z.f2, .slice D3 z.f3.length e3, .slice D4 z.f4.length e4] 33 (0, 0))) (hbn : b ≤ n) (hx : Lies b W x A3 c3 A4 c4) (hy : Lies b W y B3 d3 B4 d4) (hz : Lies b W z D3 e3 D4 e4) : Kd.F k33 W (fun k => b ≤ k) (some ⟨n, 0, none⟩) [x, y, z].length [x, y, z] :=
  F_block hb hbn (by simp) (Reps.snoc (Reps.snoc (Reps.snoc (Reps.none _ 5) hx.fk rfl) hy.fk rfl) hz.fk rfl)

/-- a string's packet -/
def tO (s : ByteArray) : S33 := ⟨0, 4, false, bytesOf s, []⟩
/-- a sequence -/
def tL (l : List S33) : S33 := ⟨0, 16, true, [], l⟩
/-- an operation -/
def tOp (t : Int) (l : List S33) : S33 := ⟨1, t, true, [], l⟩

end Go.Proofs.YtbmcpjkhnhbjdaaDoor.Ber
