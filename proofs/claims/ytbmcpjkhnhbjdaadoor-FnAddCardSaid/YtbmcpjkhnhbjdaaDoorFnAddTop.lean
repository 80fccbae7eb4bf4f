/- impl.Add: the request to add an entry. · impl.Delete: the request to delete an entry. · spec.Add: the packet of a request to add. · laws.FnAdd answers true at every name and every row of attributes. · What arguments of the types []impl.Attribute and []impl.Change read as. · The contract of the row of laws.FnAdd: whatever arguments, the law answers true, they read as before. No condition but the row's own: what it lists reads as the program's text lays it. · Closed facts on the program, each for itself, that every row of this seat wants. · The row of laws.FnAdd out of its lifted contract, and the tied card out of the row. No condition but the row's own: what it lists reads as the program's text lays it. -/
import Derived.Test.YtbmcpjkhnhbjdaaDoorFnAddAttr
import Derived.Deep.RegionLaw
import Derived.Deep.DrawnRows
import Derived.Test.YtbmcpjkhnhbjdaaDoorReq
import Derived.Test.YtbmcpjkhnhbjdaaDoorOpen
import Derived.Test.YtbmcpjkhnhbjdaaDoorPFnEncodex0
import Derived.Test.YtbmcpjkhnhbjdaaDoorRows
import Derived.WalkKit
import Derived.ProofKit
import Derived.OpenShut
import Derived.ShutString
import Derived.ChangeOld
import Derived.Below
import Derived.SizedLaws
import Derived.Lay
import Derived.LaidMore
import Derived.JoinedOf
import Derived.Test.YtbmcpjkhnhbjdaaDoorCards
import Derived.Test.YtbmcpjkhnhbjdaaDoorTie
import Derived.SevenTiedAt
namespace Go.Proofs.YtbmcpjkhnhbjdaaDoor.Ber
open Go.RowKit Go.Proofs.YtbmcpjkhnhbjdaaDoorW.PrintWords Go.Proofs.YtbmcpjkhnhbjdaaDoor.PFnEncode Go.Proofs.YtbmcpjkhnhbjdaaDoor.Tree Go.Proofs.YtbmcpjkhnhbjdaaDoor.Buf Go.Proofs.YtbmcpjkhnhbjdaaDoor.Pk Go.Proofs.YtbmcpjkhnhbjdaaDoor.Within Go.Proofs.YtbmcpjkhnhbjdaaDoor.Num
set_option linter.unusedVariables false
set_option linter.unusedSimpArgs false

/-- the request that is built: its attributes so far -/
structure AddInv (r : Nat) (dn : ByteArray) (W : World) (v : Value) (l : List S58) : Prop where
  hr : W.heap[r]? = some (.cells #[.string dn, v, .slice none 0 0] 174 (0, 0))
  row : Kd.N k58 175 W (r + 1) (fun k => r < k) v l
theorem AddInv.below {r : Nat} {dn : ByteArray} {W W' : World} {v : Value} {l : List S58} (h : AddInv r dn W v l) (hb : Below W.heap.size W W') : AddInv r dn W' v l := ⟨blk_below h.hr hb, Kd.N_below h.row hb⟩
theorem AddInv.ne {r : Nat} {dn : ByteArray} {W : World} {v : Value} {l : List S58} (h : AddInv r dn W v l) : some r ≠ v.ownBlock := Kd.N_away h.row (fun k hk => Nat.ne_of_gt hk)
theorem info_at : (Tryd.prog.info? 175).map (fun i => (i.zero, i.size, i.bytes)) = some (some (.agg #[(.string ⟨#[]⟩), (.slice none 0 0)]), 2, 40) := by kernel_rfl

set_option maxHeartbeats 3200000 in
set_option maxRecDepth 100000 in
theorem addAttr_any (dn nm : ByteArray) (vals : List ByteArray) (A1 : Option Addr) (c1 r : Nat) (W : World) (v : Value) (l : List S58) (h : AddInv r dn W v l) (hv : vals.length ≤ c1) (hF : Kd.F Kd.string W (fun k => r < k ∧ some k ≠ v.ownBlock) A1 vals.length vals) (hl : l.length ≤ 1000000000) :
    Calls Tryd.prog 67 #[.pointer (some ⟨r, 0, none⟩), .string nm, .slice A1 vals.length c1] W fun e w' => e = .returned (.tuple #[]) ∧ (∃ v', AddInv r dn w' v' (l ++ [⟨nm, vals⟩])) ∧ Below r W w' := by
  have HI := Lib.hid h
  have HK : Hid (Kd.FK k58 W (fun k => r < k ∧ some k ≠ v.ownBlock) (⟨nm, vals⟩ : S58) [.string nm, .slice A1 vals.length c1]) := Lib.hid (k58_mkF W _ ⟨nm, vals⟩ hv hF)
  have HLT : Hid (r < W.heap.size) := Lib.hid (blk_lt h.hr)
  have HFR : Hid (∀ k, W.heap.size ≤ k → r < k) := Lib.hid (fun k hk => by have := HLT.out; omega)
  have HLE : Hid ((l.length + 1) * 40 ≤ 140737488355328) := Lib.hid (by omega)
  have k1 : W.cell? ⟨r, 1, none⟩ = some v := blk_cell h.hr 1
  obtain ⟨x, hx⟩ : ∃ x : S58, x = ⟨nm, vals⟩ := ⟨_, rfl⟩
  rw [← hx] at HK ⊢
  clear h hv hF hl hx
  go_enter Tryd.func67, Tryd.ntmps67
  go_wp2_with (first
    | ((with_reducible refine gate_builtin (b := .append) (xs := #[.tmp 10, .tmp 14]) rfl ?_)
       at_builtin
       refine Kd.N_append k58 (w0 := W) (W := W) (r + 1) rfl (.tmp 10) (.tmp 14) 172 175 (.agg #[(.string ⟨#[]⟩), (.slice none 0 0)]) 40 rfl Tryd.underlying172 info_at rfl (show 0 < 2 by decide) (by decide) v l x _ (fun k => r < k) _ rfl rfl HK.out (fun _ h => h) HFR.out HI.out.row (Below.refl _ _) HLT.out HLE.out ?_
       intro v1 w1 hR hb hg hat
       have x0 : w1.cell? ⟨r, 1, none⟩ = some v := blk_cell (blk_grown HI.out.hr hg HI.out.ne) 1
       have xf : w1.frozen? ⟨r, 1, none⟩ = false := blk_frozen (blk_grown HI.out.hr hg HI.out.ne) 1
       obtain ⟨Aq, cq, hvq⟩ := Kd.N_slice hR
       have HN := Lib.hid (Kd.N_far hR (p := ⟨r, 1, none⟩) (fun k hk => Nat.ne_of_gt hk) v1)
       have HR8 := Lib.hid (blk_set (blk_grown HI.out.hr hg HI.out.ne) 1 v1)
       have HB8 := Lib.hid ((hb.mono (Nat.le_succ r)).setCell (p := ⟨r, 1, none⟩) (Nat.le_refl _) v1)
       obtain ⟨n, hn⟩ : ∃ n, n = (l ++ [x]).length := ⟨_, rfl⟩
       rw [← hn] at hvq
       subst hvq
       clear hR hb hg hat hn))
  exact bodyPost_end (results_none rfl _ _ _) rfl ⟨rfl, ⟨_, HR8.out, HN.out⟩, HB8.out⟩

/-- the request to add as data -/
def dAdd (dn : ByteArray) (l : List S58) : S27 := ⟨1, 8, true, [], [⟨0, 4, false, bytesOf dn, []⟩, ⟨0, 16, true, [], l.map fun a => ⟨0, 16, true, [], [⟨0, 4, false, bytesOf a.f0, []⟩, ⟨0, 17, true, [], a.f1.map fun s => ⟨0, 4, false, bytesOf s, []⟩⟩]⟩⟩]⟩
theorem tr_Add (dn : ByteArray) (l : List S58) : trOf (pAdd dn l) = dAdd dn l := by
  have h := tr_fold 0 32 16 .nilIface ⟨#[65, 116, 116, 114, 105, 98, 117, 116, 101, 115]⟩ fAttr l rfl
  unfold pAdd dAdd
  generalize foldK (bare 0 32 16 .nilIface ⟨#[65, 116, 116, 114, 105, 98, 117, 116, 101, 115]⟩) fAttr l = x at h ⊢
  unfold addK bare prim
  simp [trOf, trL, h, fAttr, tr_attr]
theorem Add_ta (r : Nat) : ∀ w : World, (Instr.typeAssert (.iface 130 (.pointer (some ⟨r, 0, none⟩))) 20 200 true).run Tryd.prog w = .ok (.tuple #[.iface 130 (.pointer (some ⟨r, 0, none⟩)), .bool true]) w := fun _ => by kernel_rfl
theorem Add_m (r : Nat) : ∀ w : World, (method 366 130 (.pointer (some ⟨r, 0, none⟩)) "goldap/pub/goldap.appendTo").run Tryd.prog w = .ok (146, (.pointer (some ⟨r, 0, none⟩))) w := fun _ => by kernel_rfl
theorem Add_cf : ∀ (args : Array Value) (w : World), (callFunc 146 args).run Tryd.prog w = .ok (.enter 146 args) w := fun _ _ => by kernel_rfl
/-- the built request, handed to 'operation' -/
theorem op_add {r : Nat} {dn : ByteArray} {W : World} {v : Value} {l : List S58} (h : AddInv r dn W v l) (hdn : dn.size ≤ 1000000) (hl : ∀ a, a ∈ l → okA a) (hnl : l.length ≤ 20) :
    Calls Tryd.prog 43 #[.iface 130 (.pointer (some ⟨r, 0, none⟩))] W (OpRes W (dAdd dn l)) := by
  obtain ⟨A, c, rfl, hc, hC⟩ := Kd.N_reads h.row
  have hlt := blk_lt h.hr
  have HO := operation_any 130 146 (.pointer (some ⟨r, 0, none⟩)) (pAdd dn l) W (Add_ta _) (Add_m _) Add_cf
    (fun W1 hW q E n W2 hE tE hn hb => appendTo_Add dn l hdn hl hnl A c r W1.heap.size q n E W2 hE tE hn (blk_below (blk_below h.hr hW) hb) (Nat.lt_of_lt_of_le hlt hW.size) (Kd.C_below (Kd.C_below hC hW) hb))
    ((pAdd_fine dn l hdn hl hnl).ok (by decide))
  rw [tr_Add] at HO
  exact HO

set_option maxHeartbeats 3200000 in
set_option maxRecDepth 100000 in
theorem iAdd_any (dn : ByteArray) (l : List S49) (A : Option Addr) (c : Nat) (w : World) (hC : Kd.C k49 w A l.length l) (hdn : dn.size ≤ 1000000) (hl : ∀ a, a ∈ l → okA (attrOf a)) (hnl : l.length ≤ 20) :
    Calls Tryd.prog 30 #[.string dn, .slice A l.length c] w (OpRes w (dAdd dn (l.map attrOf))) := by
  have HC := Lib.hid hC
  have HOP : Hid (∀ (W : World) (v : Value), AddInv (w.heap.size + 1) dn W v (l.map attrOf) → Calls Tryd.prog 43 #[.iface 130 (.pointer (some ⟨w.heap.size + 1, 0, none⟩))] W (OpRes W (dAdd dn (l.map attrOf)))) :=
    Lib.hid (fun W v h => op_add h hdn (fun a ha => by obtain ⟨b, hb, rfl⟩ := List.mem_map.1 ha; exact hl b hb) (by rw [List.length_map]; exact hnl))
  have HT : Hid (∀ (s : S49) (A1 : Option Addr) (c1 : Nat) (W : World), s ∈ l → s.f1.length ≤ c1 → Kd.C (Kd.slice 5 (Kd.int .u8)) W A1 s.f1.length s.f1 → Calls Tryd.prog 58 #[.slice A1 s.f1.length c1] W fun e w' => ∃ v0_ : Value, e = .returned (v0_) ∧ Kd.R Kd.string 9 w' W.heap.size (fun _ => True) v0_ (s.f1.map strOfNums) ∧ Below W.heap.size W w') :=
    Lib.hid (fun s A1 c1 W hs hc1 h => impl_texts.calls _ A1 c1 s.f1 _ W h hc1 (texts_f s.f1 (by
      have h1 := (hl s hs).2.2
      have : (attrOf s).f1.length = s.f1.length := by simp [attrOf]
      omega)))
  obtain ⟨y, hy⟩ : ∃ y, y = dAdd dn (l.map attrOf) := ⟨_, rfl⟩
  rw [← hy] at HOP ⊢
  obtain ⟨W0, hW0⟩ : ∃ W0, W0 = (w.alloc (.cells #[.int .i64 0, .int .i64 0, .bool false, .slice none 0 0, .slice none 0 0] 27)).alloc (.cells #[.string dn, .slice none 0 0, .slice none 0 0] 174) := ⟨_, rfl⟩
  have hb0 : Below w.heap.size w W0 := by rw [hW0]; exact below_alloc (below_alloc (Below.refl _ _) _) _
  have hs0 : W0.heap.size = w.heap.size + 2 := by rw [hW0]; simp
  have hz0 : W0.heap[w.heap.size]? = some (.cells #[.int .i64 0, .int .i64 0, .bool false, .slice none 0 0, .slice none 0 0] 27 (0, 0)) := by rw [hW0]; exact blk_alloc (blk_new _ _) _
  have hr0 : W0.heap[w.heap.size + 1]? = some (.cells #[.string dn, .slice none 0 0, .slice none 0 0] 174 (0, 0)) := by
    have := blk_new (w.alloc (.cells #[.int .i64 0, .int .i64 0, .bool false, .slice none 0 0, .slice none 0 0] 27)) (.cells #[.string dn, .slice none 0 0, .slice none 0 0] 174)
    have e : (w.alloc (.cells #[.int .i64 0, .int .i64 0, .bool false, .slice none 0 0, .slice none 0 0] 27)).heap.size = w.heap.size + 1 := by simp
    rw [e, ← hW0] at this
    exact this
  have HI0 : Hid (AddInv (w.heap.size + 1) dn W0 (.slice none 0 0) []) := Lib.hid ⟨hr0, Kd.N_nil _ _ _ _ _⟩
  have HB0 := Lib.hid hb0
  have HS0 := Lib.hid hs0
  have HZ0 := Lib.hid hz0
  have HW0 := Lib.hid hW0
  clear hy hb0 hs0 hz0 hr0 hW0 hdn hl hC
  go_enter Tryd.func30, Tryd.ntmps30
  go_wp2_with (go_at_call 66; go_in)
  rw [← HW0.out]
  go_loopw [13] (fun i wr => ∃ k : Nat, i = .int .i64 k ∧ k ≤ l.length ∧ Hid (∃ v, AddInv (w.heap.size + 1) dn wr v ((l.take k).map attrOf)) ∧ Hid (Below (w.heap.size + 1) W0 wr)) (fun i _ => l.length - (intOf i).toNat)
  case atStart => exact ⟨0, rfl, Nat.zero_le _, Lib.hid ⟨_, HI0.out⟩, Lib.hid (Below.refl _ _)⟩
  case round =>
    obtain ⟨k, rfl, hk, HI1, HBr⟩ := hrel
    obtain ⟨v, HI2⟩ := HI1.out
    have HI := Lib.hid HI2
    clear HI1 HI2
    have HBW : Hid (Below w.heap.size w wr) := Lib.hid (HB0.out.trans (HBr.out.mono (Nat.le_succ _)))
    by_cases hlt : k < l.length
    · obtain ⟨ad, A1, c1, rfl, e0, e1, l1, g1⟩ := at_T49 HC.out (k : Int) (by omega) (by omega)
      rw [Int.toNat_natCast] at e0 e1
      replace e0 := (HBW.out.cell (World.block_lt_of_cell? w _ e0)).trans e0
      replace e1 := (HBW.out.cell (World.block_lt_of_cell? w _ e1)).trans e1
      rw [rd_T_at hlt] at e0 e1 l1 g1
      have HST : Hid ((l.take k).map attrOf ++ [attrOf l[k]] = (l.take (k + 1)).map attrOf) := Lib.hid (by rw [List.take_succ_eq_append_getElem hlt, List.map_append]; rfl)
      have HLE : Hid (((l.take k).map attrOf).length ≤ 1000000000) := Lib.hid (by rw [List.length_map, List.length_take]; omega)
      have HTX := Lib.hid (fun W => HT.out l[k] A1 c1 W (List.getElem_mem hlt) l1)
      obtain ⟨s, hs⟩ : ∃ s, s = l[k] := ⟨_, rfl⟩
      obtain ⟨vs, hvs⟩ : ∃ vs, vs = s.f1.map strOfNums := ⟨_, rfl⟩
      obtain ⟨acc, hacc⟩ : ∃ acc, acc = (l.take k).map attrOf := ⟨_, rfl⟩
      rw [← hs] at e0 e1 HST HTX g1 l1
      rw [← hvs] at HTX
      have hat : attrOf s = ⟨s.f0, vs⟩ := by rw [hvs]; rfl
      rw [hat] at HST
      rw [← hacc] at HST HLE HI
      have HG1 := Lib.hid (Kd.C_below g1 HBW.out)
      clear hs hacc g1 l1 hvs hat
      go_wp2_with fail
      obtain ⟨W5, hW5⟩ : ∃ W5, W5 = wr.alloc (.cells #[.string s.f0, .slice A1 s.f1.length c1] 49) := ⟨_, rfl⟩
      rw [← hW5]
      have hb5 : Below wr.heap.size wr W5 := by rw [hW5]; exact below_alloc (Below.refl _ _) _
      have hx5 : W5.heap[wr.heap.size]? = some (.cells #[.string s.f0, .slice A1 s.f1.length c1] 49 (0, 0)) := by rw [hW5]; exact blk_new _ _
      have s0 : W5.cell? ⟨wr.heap.size, 0, none⟩ = some (.string s.f0) := blk_cell hx5 0
      have s1 : W5.cell? ⟨wr.heap.size, 1, none⟩ = some (.slice A1 s.f1.length c1) := blk_cell hx5 1
      have hd5 : Below W5.heap.size W5 W5.drew := (Below.refl _ _).drew
      have HX5 := Lib.hid (blk_below hx5 hd5)
      have HI5 := Lib.hid ((HI.out.below hb5).below hd5)
      have HB5 : Hid (Below (w.heap.size + 1) W0 W5.drew) := Lib.hid ((HBr.out.trans (hb5.mono (by have := HBr.out.size; have := HS0.out; omega))).trans (hd5.mono (by have := HBr.out.size; have := HS0.out; have := hb5.size; omega)))
      have HTC := Lib.hid (HTX.out W5.drew (Kd.C_below (Kd.C_below HG1.out hb5) hd5))
      clear hW5 hb5 hx5 hd5
      go_region_law (go_wp2_with (first
        | (go_at_call 58
           rename_i hq
           clear hq
           with_reducible refine HTC.out.mono ?_
           rintro e W6 ⟨v6, rfl, hR6, hB6⟩
           obtain ⟨A6, c6, rfl, l6, _⟩ := Kd.R_reads hR6
           have t0 : W6.cell? ⟨wr.heap.size, 0, none⟩ = some (.string s.f0) := blk_cell (blk_below HX5.out hB6) 0
           have HF6 : Hid (Kd.F Kd.string W6 (fun k => w.heap.size + 1 < k ∧ some k ≠ v.ownBlock) A6 vs.length vs) := Lib.hid (Kd.F_mono (Kd.R_F (Kd.R_bound hR6)) (fun k hk => by
             have h1 := hk.2.1
             have h2 := HB5.out.size
             have h3 := HS0.out
             refine ⟨by omega, fun e => ?_⟩
             have := Kd.N_lt HI5.out.row k e.symm
             omega))
           have HI6 := Lib.hid (HI5.out.below hB6)
           have HB6 : Hid (Below (w.heap.size + 1) W0 W6) := Lib.hid (HB5.out.trans (hB6.mono (by have := HB5.out.size; have := HS0.out; omega)))
           have HL6 := Lib.hid l6
           clear hR6 hB6 l6)
        | (go_at_call 67
           rename_i hq
           clear hq
           have hcall := addAttr_any dn s.f0 vs A6 c6 (w.heap.size + 1) W6 v acc HI6.out HL6.out HF6.out HLE.out
           with_reducible refine hcall.mono ?_
           rintro e W7 ⟨rfl, ⟨v7, hI7⟩, hB7⟩
           have HI7 := Lib.hid hI7
           have HB7 := Lib.hid (HB6.out.trans hB7)
           clear hI7 hB7 hcall)))
      all_goals (
        go_wp2
        go_roundw
        case rel =>
          refine ⟨_, _, _, _, _, _, _, _, _, _, _, _, _, ?_, rfl⟩
          exact ⟨k + 1, by first | rfl | go_num, hlt, Lib.hid ⟨_, by rw [← HST.out]; exact HI7.out⟩, HB7⟩
        case measure => simp [intOf]; omega)
    · obtain rfl : k = l.length := by omega
      rw [List.take_length] at HI
      have HZr := Lib.hid ((HBr.out.block w.heap.size (Nat.lt_succ_self _)).trans HZ0.out)
      have HLW : Hid (w.heap.size + 2 ≤ wr.heap.size) := Lib.hid (by have := HBr.out.size; have := HS0.out; omega)
      clear HT HC
      go_wp2_with (first
        | (go_at_call 43
           with_reducible refine (HOP.out wr v HI.out).mono ?_
           rintro e W1 ⟨A3, c3, A4, c4, rfl, l3, h3, l4, h4, hB1⟩
           have HZ1 := Lib.hid (blk_below HZr.out hB1)
           have HB1 := Lib.hid (HBW.out.trans (hB1.mono HBW.out.size))
           have HF := Lib.hid (And.intro l3 (And.intro h3 (And.intro l4 h4)))
           have k0 : W1.cell? ⟨w.heap.size, 0, none⟩ = some (.int .i64 0) := blk_cell HZ1.out 0
           have k1 : W1.cell? ⟨w.heap.size, 1, none⟩ = some (.int .i64 0) := blk_cell HZ1.out 1
           have k2 : W1.cell? ⟨w.heap.size, 2, none⟩ = some (.bool false) := blk_cell HZ1.out 2
           have k3 : W1.cell? ⟨w.heap.size, 3, none⟩ = some (.slice none 0 0) := blk_cell HZ1.out 3
           have k4 : W1.cell? ⟨w.heap.size, 4, none⟩ = some (.slice none 0 0) := blk_cell HZ1.out 4
           have kf0 := blk_frozen HZ1.out 0
           have kf1 := blk_frozen HZ1.out 1
           have kf2 := blk_frozen HZ1.out 2
           have kf3 := blk_frozen HZ1.out 3
           have kf4 := blk_frozen HZ1.out 4
           clear l3 h3 l4 h4 hB1))
      try simp only [Exit.inBlock, Exit.then]
      obtain ⟨h5, hend⟩ := req_end HB1.out (Nat.le_refl _) HBW.out.size (fun k hk => by have := HLW.out; omega) HZ1.out HF.out.1 HF.out.2.1 HF.out.2.2.1 HF.out.2.2.2 rfl
      exact bodyPost_ret (results_ct (p := 4) (u := 5) rfl _ _ _ _ _ _ _ rfl h5 Tryd.underlying27 rfl size_ip) rfl hend

end Go.Proofs.YtbmcpjkhnhbjdaaDoor.Ber

namespace Go.Proofs.YtbmcpjkhnhbjdaaDoor.Ber
open Go.RowKit Go.Proofs.YtbmcpjkhnhbjdaaDoorW.PrintWords Go.Proofs.YtbmcpjkhnhbjdaaDoor.PFnEncode Go.Proofs.YtbmcpjkhnhbjdaaDoor.Tree Go.Proofs.YtbmcpjkhnhbjdaaDoor.Buf Go.Proofs.YtbmcpjkhnhbjdaaDoor.Pk Go.Proofs.YtbmcpjkhnhbjdaaDoor.Within Go.Proofs.YtbmcpjkhnhbjdaaDoor.Num
set_option linter.unusedVariables false
set_option linter.unusedSimpArgs false
set_option maxHeartbeats 3200000 in
set_option maxRecDepth 100000 in
theorem encode_app (s desc : ByteArray) (w : World) :
    Calls Tryd.prog 87 #[.int .u8 64, .int .u8 0, .int .u64 10, .iface 9 (.string s), .string desc] w fun e w' => Made w (bare 64 0 10 (strV s) desc) e w' := by
  have hmk := mk_kids
  go_enter Tryd.func87, Tryd.ntmps87
  go_wp2
  go_ret
  exact ⟨_, rfl, fresh_pk w 64 0 10 (strV s) desc rfl, fresh_below w _ _ _⟩

/-- the request as a packet -/
def pDel (dn : ByteArray) : Pk := prim 64 0 10 (strV dn) (bytesOf dn) ⟨#[68, 101, 108, 32, 82, 101, 113, 117, 101, 115, 116]⟩
theorem pDel_fine (dn : ByteArray) (h : dn.size ≤ 1000000) : Fine (pDel dn) 1000000 := fine_str _ _ _ _ _ (by decide) (by decide) (by decide) (Or.inl rfl) (by decide) (by decide) h

set_option maxHeartbeats 3200000 in
set_option maxRecDepth 100000 in
theorem appendTo_Del (dn : ByteArray) (hdn : dn.size ≤ 1000000) (r base q n : Nat) (E : Pk) (w : World) (hE : At w w base q E) (tE : Top E n) (hn : n < 100000000000)
    (hr : w.heap[r]? = some (.cells #[.string dn, .slice none 0 0] 177 (0, 0))) (hrb : r < base) :
    Calls Tryd.prog 148 #[.pointer (some ⟨r, 0, none⟩), .pointer (some ⟨q, 0, none⟩)] w fun e w' => e = .returned .nilIface ∧ At w' w' base q (addK E (pDel dn)) ∧ Below base w w' := by
  have HE := Lib.hid hE
  have TE := Lib.hid tE
  have HR := Lib.hid hr
  have HRB := Lib.hid hrb
  have HN : Hid (dn.size ≤ 140737488355328) := Lib.hid (by omega)
  have HT1 : Hid (Top (pDel dn) 1000000) := Lib.hid (pDel_fine dn hdn).1
  have hcv := conv_bytes dn
  have c0 : w.cell? ⟨r, 0, none⟩ = some (.string dn) := blk_cell hr 0
  clear hE tE hr hrb hdn
  go_enter Tryd.func148, Tryd.ntmps148
  go_upto_region 2 with (first
    | (go_at_call 87
       with_reducible refine (encode_app dn _ w).mono ?_
       rintro e W1 ⟨b, rfl, hI, hB1⟩
       obtain ⟨db, v, bv, cv, P1⟩ := parts_of hI.bound
       have P2 := P1.below (Below.refl _ W1).drew
       have c1 : W1.cell? ⟨r, 0, none⟩ = some (.string dn) := blk_cell (blk_below HR.out hB1) 0
       have c5 : W1.cell? ⟨b, 5, none⟩ = some (.pointer (some ⟨db, 0, none⟩)) := P1.cell 5
       have hB2 : Below w.heap.size w W1.drew := hB1.drew
       have hB3 : Below W1.drew.heap.size W1.drew (Lib.bytesWorld W1.drew 5 dn) := bytes_below (Below.refl _ _) (Nat.le_refl _) _ _
       have d5 : (Lib.bytesWorld W1.drew 5 dn).cell? ⟨b, 5, none⟩ = some (.pointer (some ⟨db, 0, none⟩)) := (P2.below hB3).cell 5
       have HWR := Lib.hid (fun c => write_conv P2 hB2.size dn W1.heap.size c rfl (by simpa [bare] using HN.out))
       have HB2 := Lib.hid hB2
       clear P1 P2 hI hB1 hB2 hB3))
  go_region_law (go_wp2_with (go_at_call 88
                              rename_i hq
                              clear hq
                              refine (HWR.out _).mono ?_
                              rintro e W4 ⟨rfl, v', P4, ho4⟩
                              have hB4 := ho4.below HB2.out.size (fun i hi => hi.2.1)
                              have HB4 := Lib.hid (HB2.out.trans hB4)
                              have HA4 : Hid (At W4 W4 w.heap.size b (pDel dn)) := Lib.hid ⟨(P4.okmono (ok' := fun _ => True) (fun _ _ => trivial)).pk, Below.refl _ _, Nat.le_trans HB2.out.size hB4.size⟩
                              clear P4 ho4 hB4))
  all_goals (
    clear hcv
    go_wp2_with (first
      | (go_at_call 93
         with_reducible refine (app_at (HE.out.on HB4.out) HA4.out (Nat.le_refl _) TE.out HT1.out (by omega) (by decide)).mono ?_
         rintro e W10 ⟨⟨u10, rfl⟩, hA, hB⟩
         have HAE := Lib.hid hA
         have HBE := Lib.hid ((HB4.out.mono HE.out.le).trans hB)
         have cE : W10.cell? ⟨r, 1, none⟩ = some (.slice none 0 0) := blk_cell ((HBE.out.block r HRB.out).trans HR.out) 1
         clear hA hB))
    go_ret
    exact ⟨rfl, HAE.out, HBE.out⟩)

/-- the request as data -/
def dDel (dn : ByteArray) : S27 := ⟨1, 10, false, bytesOf dn, []⟩
theorem tr_Del (dn : ByteArray) : trOf (pDel dn) = dDel dn := by
  unfold pDel dDel prim
  simp [trOf]
theorem Del_ta (r : Nat) : ∀ w : World, (Instr.typeAssert (.iface 133 (.pointer (some ⟨r, 0, none⟩))) 20 200 true).run Tryd.prog w = .ok (.tuple #[.iface 133 (.pointer (some ⟨r, 0, none⟩)), .bool true]) w := fun _ => by kernel_rfl
theorem Del_m (r : Nat) : ∀ w : World, (method 366 133 (.pointer (some ⟨r, 0, none⟩)) "goldap/pub/goldap.appendTo").run Tryd.prog w = .ok (148, (.pointer (some ⟨r, 0, none⟩))) w := fun _ => by kernel_rfl
theorem Del_cf : ∀ (args : Array Value) (w : World), (callFunc 148 args).run Tryd.prog w = .ok (.enter 148 args) w := fun _ _ => by kernel_rfl
set_option maxHeartbeats 3200000 in
set_option maxRecDepth 100000 in
theorem iDel_any (dn : ByteArray) (w : World) (hdn : dn.size ≤ 1000000) :
    Calls Tryd.prog 31 #[.string dn] w (OpRes w (dDel dn)) := by
  obtain ⟨W0, hW0⟩ : ∃ W0, W0 = (w.alloc (.cells #[.int .i64 0, .int .i64 0, .bool false, .slice none 0 0, .slice none 0 0] 27)).alloc (.cells #[.string dn, .slice none 0 0] 177) := ⟨_, rfl⟩
  have hb0 : Below w.heap.size w W0 := by rw [hW0]; exact below_alloc (below_alloc (Below.refl _ _) _) _
  have hs0 : w.heap.size + 2 ≤ W0.heap.size := by rw [hW0]; simp
  have hz0 : W0.heap[w.heap.size]? = some (.cells #[.int .i64 0, .int .i64 0, .bool false, .slice none 0 0, .slice none 0 0] 27 (0, 0)) := by rw [hW0]; exact blk_alloc (blk_new _ _) _
  have hr0 : W0.heap[w.heap.size + 1]? = some (.cells #[.string dn, .slice none 0 0] 177 (0, 0)) := by
    have := blk_new (w.alloc (.cells #[.int .i64 0, .int .i64 0, .bool false, .slice none 0 0, .slice none 0 0] 27)) (.cells #[.string dn, .slice none 0 0] 177)
    have e : (w.alloc (.cells #[.int .i64 0, .int .i64 0, .bool false, .slice none 0 0, .slice none 0 0] 27)).heap.size = w.heap.size + 1 := by simp
    rw [e, ← hW0] at this
    exact this
  have HO := Lib.hid (operation_any 133 148 (.pointer (some ⟨w.heap.size + 1, 0, none⟩)) (pDel dn) W0 (Del_ta _) (Del_m _) Del_cf
    (fun W hW q E n W' hE tE hn hb => appendTo_Del dn hdn (w.heap.size + 1) W.heap.size q n E W' hE tE hn (blk_below (blk_below hr0 hW) hb) (by have := hW.size; omega))
    ((pDel_fine dn hdn).ok (by decide)))
  rw [tr_Del] at HO
  obtain ⟨y, hy⟩ : ∃ y, y = dDel dn := ⟨_, rfl⟩
  rw [← hy] at HO ⊢
  have HB0 := Lib.hid hb0
  have HS0 := Lib.hid hs0
  have HZ0 := Lib.hid hz0
  have HW0 := Lib.hid hW0
  clear hy hb0 hs0 hz0 hr0 hW0 hdn
  go_enter Tryd.func31, Tryd.ntmps31
  go_wp2_with (first
    | (go_at_call 68; go_in)
    | (go_at_call 43
       rw [← HW0.out]
       with_reducible refine HO.out.mono ?_
       rintro e W1 ⟨A3, c3, A4, c4, rfl, l3, h3, l4, h4, hB1⟩
       have HZ1 := Lib.hid (blk_below HZ0.out hB1)
       have HB1 := Lib.hid (HB0.out.trans (hB1.mono HB0.out.size))
       have HF := Lib.hid (And.intro l3 (And.intro h3 (And.intro l4 h4)))
       have k0 : W1.cell? ⟨w.heap.size, 0, none⟩ = some (.int .i64 0) := blk_cell HZ1.out 0
       have k1 : W1.cell? ⟨w.heap.size, 1, none⟩ = some (.int .i64 0) := blk_cell HZ1.out 1
       have k2 : W1.cell? ⟨w.heap.size, 2, none⟩ = some (.bool false) := blk_cell HZ1.out 2
       have k3 : W1.cell? ⟨w.heap.size, 3, none⟩ = some (.slice none 0 0) := blk_cell HZ1.out 3
       have k4 : W1.cell? ⟨w.heap.size, 4, none⟩ = some (.slice none 0 0) := blk_cell HZ1.out 4
       have kf0 := blk_frozen HZ1.out 0
       have kf1 := blk_frozen HZ1.out 1
       have kf2 := blk_frozen HZ1.out 2
       have kf3 := blk_frozen HZ1.out 3
       have kf4 := blk_frozen HZ1.out 4
       clear l3 h3 l4 h4 hB1 HO))
  try simp only [Exit.inBlock, Exit.then]
  obtain ⟨h5, hend⟩ := req_end HB1.out (Nat.le_refl _) HB0.out.size (fun k hk => by have := HS0.out; omega) HZ1.out HF.out.1 HF.out.2.1 HF.out.2.2.1 HF.out.2.2.2 rfl
  exact bodyPost_ret (results_ct (p := 2) (u := 3) rfl _ _ _ _ _ _ _ rfl h5 Tryd.underlying27 rfl size_ip) rfl hend

end Go.Proofs.YtbmcpjkhnhbjdaaDoor.Ber

namespace Go.Proofs.YtbmcpjkhnhbjdaaDoor.Ber
open Go.RowKit Go.Proofs.YtbmcpjkhnhbjdaaDoorW.PrintWords Go.Proofs.YtbmcpjkhnhbjdaaDoor.PFnEncode Go.Proofs.YtbmcpjkhnhbjdaaDoor.Tree Go.Proofs.YtbmcpjkhnhbjdaaDoor.Buf Go.Proofs.YtbmcpjkhnhbjdaaDoor.Pk Go.Proofs.YtbmcpjkhnhbjdaaDoor.Within Go.Proofs.YtbmcpjkhnhbjdaaDoor.Num
set_option linter.unusedVariables false
set_option linter.unusedSimpArgs false
set_option maxHeartbeats 3200000 in
set_option maxRecDepth 100000 in
theorem sAdd_nw (dn : ByteArray) (l : List S58) (A : Option Addr) (c : Nat) (w : World) (hC : Kd.C k58 w A l.length l) (hdn : dn.size ≤ 1000000) (hl : ∀ a, a ∈ l → okA a) (hn : l.length ≤ 1000) :
    Calls Tryd.prog 32 #[.string dn, .slice A l.length c] w (Nw w.heap.size w (tOp 8 [tO dn, tL (l.map tAttr)])) := by
  have HC := Lib.hid hC
  have HEL := Lib.hid hl
  have HO1 : Hid (∀ W, Calls Tryd.prog 47 #[.string dn] W (Nw W.heap.size W (tO dn))) := Lib.hid (fun W => octets_nw dn W (by omega))
  have HLI : Hid (∀ (A : Option Addr) (cc : Nat) (W : World), Kd.F k33 W (fun k => w.heap.size + 1 ≤ k) A [tO dn, tL (l.map tAttr)].length [tO dn, tL (l.map tAttr)] → 2 ≤ cc → w.heap.size + 1 ≤ W.heap.size → Calls Tryd.prog 46 #[.int .i64 8, .slice A 2 cc] W (Nw (w.heap.size + 1) W (tOp 8 [tO dn, tL (l.map tAttr)]))) :=
    Lib.hid (fun A cc W h1 h2 h3 => operation_nw 8 [tO dn, tL (l.map tAttr)] A cc W h1 h2 h3)
  obtain ⟨x1, hx1⟩ : ∃ x, x = tO dn := ⟨_, rfl⟩
  obtain ⟨x2, hx2⟩ : ∃ x, x = tL (l.map tAttr) := ⟨_, rfl⟩
  obtain ⟨y, hy⟩ : ∃ y, y = tOp 8 [tO dn, tL (l.map tAttr)] := ⟨_, rfl⟩
  rw [← hy] at HLI ⊢
  rw [← hx1] at HO1 HLI
  rw [← hx2] at HLI
  have HX2 := Lib.hid hx2
  obtain ⟨W0, hW0⟩ : ∃ W0, W0 = w.alloc (.cells #[.int .i64 0, .int .i64 0, .bool false, .slice none 0 0, .slice none 0 0] 33) := ⟨_, rfl⟩
  have hb0 : Below w.heap.size w W0 := by rw [hW0]; exact below_alloc (Below.refl _ _) _
  have hs0 : W0.heap.size = w.heap.size + 1 := by rw [hW0]; simp
  have HB0 := Lib.hid hb0
  have HS0 := Lib.hid hs0
  have HZ0 : Hid (W0.heap[w.heap.size]? = some (.cells #[.int .i64 0, .int .i64 0, .bool false, .slice none 0 0, .slice none 0 0] 33 (0, 0))) := Lib.hid (by rw [hW0]; exact blk_new _ _)
  have HW0 := Lib.hid hW0
  clear hx1 hx2 hy hC hdn hl hb0 hs0 hW0
  go_enter Tryd.func32, Tryd.ntmps32
  go_upto_region 2 with (first
    | (go_at_call 48
       rw [← HW0.out]
       with_reducible refine (list_ex none 0 0 W0).mono ?_
       rintro e W1 ⟨rfl, hB1⟩
       have HZ1 := Lib.hid (blk_below HZ0.out hB1)
       have HB1 := Lib.hid hB1
       clear hB1))
  obtain ⟨W2, hW2⟩ : ∃ W2, W2 = W1.alloc (.cells #[.int .i64 0, .int .i64 16, .bool true, .slice none 0 0, .slice none 0 0] 33) := ⟨_, rfl⟩
  rw [← hW2]
  have hb2 : Below W1.heap.size W1 W2 := by rw [hW2]; exact below_alloc (Below.refl _ _) _
  have HI2 : Hid (Acc W1.heap.size W2 0 16 true (.slice none 0 0) []) := Lib.hid (acc_new (by rw [hW2]; exact blk_new _ _))
  have HZ2 := Lib.hid (blk_below HZ1.out hb2)
  have HG : Hid (w.heap.size + 1 ≤ W1.heap.size) := Lib.hid (by have := HB1.out.size; have := HS0.out; omega)
  have HB2 : Hid (Below w.heap.size w W2) := Lib.hid ((HB0.out.trans (HB1.out.mono HB0.out.size)).trans (hb2.mono (by have := HG.out; omega)))
  clear hW2 hb2
  obtain ⟨g, hg⟩ : ∃ g, g = W1.heap.size := ⟨_, rfl⟩
  rw [← hg] at HI2 HG ⊢
  clear hg
  go_wp2
  go_loopw [11] (fun i wr => ∃ k : Nat, i = .int .i64 k ∧ k ≤ l.length ∧ Hid (∃ v, Acc g wr 0 16 true v ((l.take k).map tAttr)) ∧ Hid (Below g W2 wr)) (fun i _ => l.length - (intOf i).toNat)
  case atStart => exact ⟨0, rfl, Nat.zero_le _, Lib.hid ⟨_, HI2.out⟩, Lib.hid (Below.refl _ _)⟩
  case round =>
    obtain ⟨k, rfl, hk, HI3, HBr⟩ := hrel
    obtain ⟨v, HI4⟩ := HI3.out
    have HI := Lib.hid HI4
    clear HI3 HI4
    have HBW : Hid (Below w.heap.size w wr) := Lib.hid (HB2.out.trans (HBr.out.mono (by have := HG.out; omega)))
    by_cases hlt : k < l.length
    · obtain ⟨ad, A1, c1, rfl, e0, e1, l1, g1⟩ := at_T58 HC.out (k : Int) (by omega) (by omega)
      have hrd : rd_T58 l (k : Int) = l[k] := by
        rw [rd_T58, Int.toNat_natCast, List.getD_eq_getElem?_getD, List.getElem?_eq_getElem hlt]
        rfl
      rw [hrd] at e0 e1 l1 g1
      rw [Int.toNat_natCast] at e0 e1
      replace e0 := (HBW.out.cell (World.block_lt_of_cell? w _ e0)).trans e0
      replace e1 := (HBW.out.cell (World.block_lt_of_cell? w _ e1)).trans e1
      have HST : Hid ((l.take k).map tAttr ++ [tAttr l[k]] = (l.take (k + 1)).map tAttr) := Lib.hid (by rw [List.take_succ_eq_append_getElem hlt, List.map_append]; rfl)
      have HLE : Hid ((((l.take k).map tAttr).length + 1) * 72 ≤ 140737488355328) := Lib.hid (by rw [List.length_map, List.length_take]; omega)
      have HOK := Lib.hid (HEL.out l[k] (List.getElem_mem hlt))
      obtain ⟨s, hs⟩ : ∃ s, s = l[k] := ⟨_, rfl⟩
      obtain ⟨acc, hacc⟩ : ∃ acc, acc = (l.take k).map tAttr := ⟨_, rfl⟩
      rw [← hs] at e0 e1 l1 g1 HST HOK
      rw [← hacc] at HST HLE HI
      have HG1 := Lib.hid (Kd.C_below g1 HBW.out)
      clear hrd hs hacc g1 l1
      have HLS : Hid (∀ W, Kd.string.C W A1 s.f1.length s.f1 → Calls Tryd.prog 60 #[.agg #[.string s.f0, .slice A1 s.f1.length c1]] W (Nw W.heap.size W (tAttr s))) := Lib.hid (fun W h => listed_nw s A1 c1 W h HOK.out.1 HOK.out.2.1 HOK.out.2.2)
      obtain ⟨p, hp⟩ : ∃ p, p = tAttr s := ⟨_, rfl⟩
      rw [← hp] at HST HLS
      clear hp
      go_wp2_with fail
      obtain ⟨W5, hW5⟩ : ∃ W5, W5 = wr.alloc (.cells #[.string s.f0, .slice A1 s.f1.length c1] 58) := ⟨_, rfl⟩
      rw [← hW5]
      have hb5 : Below wr.heap.size wr W5 := by rw [hW5]; exact below_alloc (Below.refl _ _) _
      have hx5 : W5.heap[wr.heap.size]? = some (.cells #[.string s.f0, .slice A1 s.f1.length c1] 58 (0, 0)) := by rw [hW5]; exact blk_new _ _
      have hd5 : Below W5.heap.size W5 W5.drew := (Below.refl _ _).drew
      have hbd := hb5.trans (hd5.mono hb5.size)
      have HX5 : Hid (W5.drew.heap[wr.heap.size]? = some (.cells #[.string s.f0, .slice A1 s.f1.length c1] 58 (0, 0))) := Lib.hid (blk_below hx5 hd5)
      have HI5 := Lib.hid (HI.out.below hbd)
      have HB5 : Hid (Below g W2 W5.drew) := Lib.hid (HBr.out.trans (hbd.mono (Nat.le_of_lt HI.out.lt)))
      have s4 : W5.drew.cell? ⟨g, 4, none⟩ = some v := blk_cell HI5.out.hg 4
      have r0 : W5.drew.cell? ⟨wr.heap.size, 0, none⟩ = some (.string s.f0) := blk_cell HX5.out 0
      have r1 : W5.drew.cell? ⟨wr.heap.size, 1, none⟩ = some (.slice A1 s.f1.length c1) := blk_cell HX5.out 1
      have HG5 := Lib.hid (Kd.C_below HG1.out hbd)
      clear hW5 hb5 hx5 hd5 hbd
      go_region_law (first
        | ((refine Kd.N_append_step k33 (w0 := W8) (W := W8) (g + 1) (by rfl) (.tmp 16) (.tmp 19) 31 33 (.agg #[.int .i64 0, .int .i64 0, .bool false, .slice none 0 0, .slice none 0 0]) 72 (by rfl) Tryd.underlying31 info_sp rfl (show 0 < 5 by decide) (by decide) v acc p _ (fun k => g < k) _ (by rfl) (by rfl) HK8.out (fun _ h => h) HI8.out.fresh HI8.out.row (Below.refl _ _) HI8.out.lt HLE.out ?_
            intro v1 w1 hR hb hg hat
            have x0 : w1.cell? ⟨g, 4, none⟩ = some v := blk_cell (blk_grown HI8.out.hg hg HI8.out.ne) 4
            have xf : w1.frozen? ⟨g, 4, none⟩ = false := blk_frozen (blk_grown HI8.out.hg hg HI8.out.ne) 4
            obtain ⟨Aq, cq, hvq⟩ := Kd.N_slice hR
            have h8 := HI8.out.app hR hg
            have hb8 := HB8.out.trans ((hb.mono (Nat.le_succ g)).setCell (p := ⟨g, 4, none⟩) (Nat.le_refl _) v1)
            obtain ⟨n, hn⟩ : ∃ n, n = (acc ++ [p]).length := ⟨_, rfl⟩
            rw [← hn] at hvq
            subst hvq
            have HI9 := Lib.hid h8
            have HB9 := Lib.hid hb8
            clear hR hb hg hat hn h8 hb8))
        | (go_wp2_with (first
          | (go_at_call 60
             with_reducible refine (HLS.out W5.drew HG5.out).mono ?_
             rintro e W8 h6
             obtain ⟨F3, f3, F4, f4, rfl, hl6, hB6⟩ := h6.open
             have t4 : W8.cell? ⟨g, 4, none⟩ = some v := blk_cell (blk_below HI5.out.hg hB6) 4
             have u4 : ∀ o, (W8.alloc o).cell? ⟨g, 4, none⟩ = some v := fun o => blk_cell (blk_alloc (blk_below HI5.out.hg hB6) o) 4
             have HK8 := Lib.hid (Acc.kid hl6 HI5.out (Nat.le_refl _))
             have HI8 := Lib.hid (HI5.out.below hB6)
             have HB8 := Lib.hid (HB5.out.trans (hB6.mono (Nat.le_of_lt HI5.out.lt)))
             clear h6 hl6 hB6))))
      all_goals (
        go_wp2
        go_roundw
        case rel =>
          first
          | exact ⟨k + 1, by first | rfl | go_num, hlt, Lib.hid ⟨_, by rw [← HST.out]; exact HI9.out⟩, HB9⟩
          | (refine ⟨_, _, _, _, _, _, _, _, _, _, _, _, _, ?_, rfl⟩
             exact ⟨k + 1, by first | rfl | go_num, hlt, Lib.hid ⟨_, by rw [← HST.out]; exact HI9.out⟩, HB9⟩)
        case measure => simp [intOf]; omega)
    · obtain rfl : k = l.length := by omega
      rw [List.take_length] at HI
      obtain ⟨m, hm⟩ : ∃ m, m = l.map tAttr := ⟨_, rfl⟩
      have hx2 : x2 = ⟨0, 16, true, [], m⟩ := by rw [HX2.out, tL, hm]
      rw [← hm] at HI
      clear hm
      subst hx2
      obtain ⟨Az, cz, hv, hlz⟩ := HI.out.lies
      subst hv
      go_wp2_with fail
      have hd : Below wr.heap.size wr wr.drew := (Below.refl _ _).drew
      have HI5 := Lib.hid (HI.out.below hd)
      have HLZ := Lib.hid (hlz.below hd)
      have HB5 : Hid (Below w.heap.size w wr.drew) := Lib.hid (HBW.out.trans (hd.mono HBW.out.size))
      have HZ5 : Hid (wr.drew.heap[w.heap.size]? = some (.cells #[.int .i64 0, .int .i64 0, .bool false, .slice none 0 0, .slice none 0 0] 33 (0, 0))) := Lib.hid (blk_below ((HBr.out.block w.heap.size (by have := HG.out; omega)).trans HZ2.out) hd)
      have s0 : wr.drew.cell? ⟨g, 0, none⟩ = some (.int .i64 0) := blk_cell HI5.out.hg 0
      have s1 : wr.drew.cell? ⟨g, 1, none⟩ = some (.int .i64 16) := blk_cell HI5.out.hg 1
      have s2 : wr.drew.cell? ⟨g, 2, none⟩ = some (.bool true) := blk_cell HI5.out.hg 2
      have s3 : wr.drew.cell? ⟨g, 3, none⟩ = some (.slice none 0 0) := blk_cell HI5.out.hg 3
      have s4 : wr.drew.cell? ⟨g, 4, none⟩ = some (.slice Az m.length cz) := blk_cell HI5.out.hg 4
      clear hlz hd
      go_region_with (first
        | (go_at_call 47
           with_reducible refine (HO1.out _).mono ?_
           rintro e W6 h6
           obtain ⟨F3, f3, F4, f4, rfl, hl6, hB6⟩ := h6.open
           have u0 : W6.cell? ⟨g, 0, none⟩ = some (.int .i64 0) := blk_cell (blk_below HI5.out.hg hB6) 0
           have u1 : W6.cell? ⟨g, 1, none⟩ = some (.int .i64 16) := blk_cell (blk_below HI5.out.hg hB6) 1
           have u2 : W6.cell? ⟨g, 2, none⟩ = some (.bool true) := blk_cell (blk_below HI5.out.hg hB6) 2
           have u3 : W6.cell? ⟨g, 3, none⟩ = some (.slice none 0 0) := blk_cell (blk_below HI5.out.hg hB6) 3
           have u4 : W6.cell? ⟨g, 4, none⟩ = some (.slice Az m.length cz) := blk_cell (blk_below HI5.out.hg hB6) 4
           have HL6 := Lib.hid (hl6.low (b' := w.heap.size + 1) (by have h1 := HI.out.lt; have h2 := HG.out; show w.heap.size + 1 ≤ wr.heap.size; omega))
           have HL26 := Lib.hid ((HLZ.out.low (b' := w.heap.size + 1) (by have h2 := HG.out; omega)).below hB6)
           have HZ6 := Lib.hid (blk_below HZ5.out hB6)
           have HB6 := Lib.hid (HB5.out.trans (hB6.mono HB5.out.size))
           clear h6 hl6 hB6)
        | (go_at_call 46
           obtain ⟨V, hV⟩ : ∃ V, V = W6.alloc (.cells #[.int .i64 x1.f0, .int .i64 x1.f1, .bool x1.f2, .slice F3 x1.f3.length f3, .slice F4 x1.f4.length f4, .int .i64 0, .int .i64 16, .bool true, .slice none 0 0, .slice Az m.length cz] 33) := ⟨_, rfl⟩
           rw [← hV]
           have hbV : Below W6.heap.size W6 V := by rw [hV]; exact below_alloc (Below.refl _ _) _
           have hXV : V.heap[W6.heap.size]? = some (.cells #[.int .i64 x1.f0, .int .i64 x1.f1, .bool x1.f2, .slice F3 x1.f3.length f3, .slice F4 x1.f4.length f4, .int .i64 0, .int .i64 16, .bool true, .slice none 0 0, .slice Az m.length cz] 33 (0, 0)) := by rw [hV]; exact blk_new _ _
           have hsz : w.heap.size + 1 ≤ W6.heap.size := by have h1 := blk_lt HZ6.out; omega
           have hF : Kd.F k33 V (fun k => w.heap.size + 1 ≤ k) (some ⟨W6.heap.size, 0, none⟩) [x1, ⟨0, 16, true, [], m⟩].length [x1, ⟨0, 16, true, [], m⟩] := F2 (x := x1) (y := ⟨0, 16, true, [], m⟩) hXV hsz (HL6.out.below hbV) (HL26.out.below hbV)
           with_reducible refine (HLI.out (some ⟨W6.heap.size, 0, none⟩) 2 V hF (Nat.le_refl _) (Nat.le_trans hsz hbV.size)).mono ?_
           rintro e W7 h7
           obtain ⟨Y3, y3, Y4, y4, rfl, hl7, hB7⟩ := h7.open
           have hb67 := hbV.trans (hB7.mono hbV.size)
           have HL7 := Lib.hid hl7
           have HZ7 := Lib.hid (blk_below HZ6.out hb67)
           have HB7 := Lib.hid (HB6.out.trans (hb67.mono HB6.out.size))
           have k0 : W7.cell? ⟨w.heap.size, 0, none⟩ = some (.int .i64 0) := blk_cell HZ7.out 0
           have k1 : W7.cell? ⟨w.heap.size, 1, none⟩ = some (.int .i64 0) := blk_cell HZ7.out 1
           have k2 : W7.cell? ⟨w.heap.size, 2, none⟩ = some (.bool false) := blk_cell HZ7.out 2
           have k3 : W7.cell? ⟨w.heap.size, 3, none⟩ = some (.slice none 0 0) := blk_cell HZ7.out 3
           have k4 : W7.cell? ⟨w.heap.size, 4, none⟩ = some (.slice none 0 0) := blk_cell HZ7.out 4
           have kf0 := blk_frozen HZ7.out 0
           have kf1 := blk_frozen HZ7.out 1
           have kf2 := blk_frozen HZ7.out 2
           have kf3 := blk_frozen HZ7.out 3
           have kf4 := blk_frozen HZ7.out 4
           clear hV hbV hXV hsz hF h7 hl7 hB7 hb67))
      all_goals (
        go_wp2
        obtain ⟨h5, hend⟩ := nw_end (b := w.heap.size) (B := w.heap.size + 1) (n := w.heap.size) (x := y) HB7.out (Nat.le_refl _) (fun k hk => by omega) (by omega) HZ7.out HL7.out.1 HL7.out.2.1 HL7.out.2.2.1 HL7.out.2.2.2 rfl
        try simp only [Exit.inBlock, Exit.then]
        exact bodyPost_ret (results_c rfl _ _ _ _ _ _ _ rfl h5 Tryd.underlying33 rfl size33) rfl hend)
end Go.Proofs.YtbmcpjkhnhbjdaaDoor.Ber

namespace Go.Proofs.YtbmcpjkhnhbjdaaDoor.Ber
open Go.RowKit Go.Proofs.YtbmcpjkhnhbjdaaDoorW.PrintWords Go.Proofs.YtbmcpjkhnhbjdaaDoor.PFnEncode Go.Proofs.YtbmcpjkhnhbjdaaDoor.Tree Go.Proofs.YtbmcpjkhnhbjdaaDoor.Buf Go.Proofs.YtbmcpjkhnhbjdaaDoor.Pk Go.Proofs.YtbmcpjkhnhbjdaaDoor.Within Go.Proofs.YtbmcpjkhnhbjdaaDoor.Num
set_option linter.unusedVariables false
set_option linter.unusedSimpArgs false
set_option maxHeartbeats 3200000 in
set_option maxRecDepth 100000 in
theorem sDelete_nw (dn : ByteArray) (w : World) (hdn : dn.size ≤ 1000000) :
    Calls Tryd.prog 33 #[.string dn] w (Nw w.heap.size w (⟨1, 10, false, bytesOf dn, []⟩ : S33)) := by
  have HCx1 : Hid (∀ W, Calls Tryd.prog 47 #[.string dn] W (Nw W.heap.size W (tO dn))) := Lib.hid (fun W => octets_nw dn W (by omega))
  obtain ⟨x1, hxx1⟩ : ∃ y_, y_ = (tO dn) := ⟨_, rfl⟩
  rw [← hxx1] at HCx1
  have HCx2 : Hid (∀ (A3 : Option Addr) (c3 : Nat) (A4 : Option Addr) (c4 : Nat) (W : World), Lies (w.heap.size + 1) W x1 A3 c3 A4 c4 → w.heap.size + 1 ≤ W.heap.size → Calls Tryd.prog 51 #[.int .i64 1, .int .i64 10, .agg #[.int .i64 (x1).f0, .int .i64 (x1).f1, .bool (x1).f2, .slice A3 (x1).f3.length c3, .slice A4 (x1).f4.length c4]] W (Nw (w.heap.size + 1) W (⟨1, 10, (x1).f2, (x1).f3, (x1).f4⟩ : S33))) := Lib.hid (fun A3 c3 A4 c4 W h hb => tagged_nw 1 10 x1 A3 c3 A4 c4 W h.1 h.2.1 h.2.2.1 h.2.2.2 hb)
  obtain ⟨x2, hxx2⟩ : ∃ y_, y_ = (⟨1, 10, (x1).f2, (x1).f3, (x1).f4⟩ : S33) := ⟨_, rfl⟩
  rw [← hxx2] at HCx2
  have hfin : (⟨1, 10, false, bytesOf dn, []⟩ : S33) = x2 := by
    first | (rw [hxx2, hxx1]; done) | (rw [hxx2, hxx1]; rfl)
  rw [hfin]
  clear hfin hxx1 hxx2
  go_enter Tryd.func33, Tryd.ntmps33
  go_wp2_with (first
    | (go_at_call 47
       first
       | (obtain ⟨W0, hW0⟩ : ∃ W0, W0 = w.alloc (.cells #[.int .i64 0, .int .i64 0, .bool false, .slice none 0 0, .slice none 0 0] 33) := ⟨_, rfl⟩
          rw [← hW0]
          have hb0 : Below w.heap.size w W0 := by rw [hW0]; exact below_alloc (Below.refl _ _) _
          have HZ0 : Hid (W0.heap[w.heap.size]? = some (.cells #[.int .i64 0, .int .i64 0, .bool false, .slice none 0 0, .slice none 0 0] 33 (0, 0))) := Lib.hid (by rw [hW0]; exact blk_new _ _)
          have HS0 : Hid (w.heap.size + 1 ≤ W0.heap.size) := Lib.hid (by rw [hW0]; simp)
          have HB0 := Lib.hid hb0
          clear hW0 hb0
          with_reducible refine (HCx1.out W0).mono ?_
          rintro e W1 h_
          obtain ⟨Ax1_3, cx1_3, Ax1_4, cx1_4, rfl, hl, hB⟩ := h_.open
          have HLx1_1 := Lib.hid (hl.low HS0.out)
          have HZ1 := Lib.hid (blk_below HZ0.out hB)
          have HB1 := Lib.hid (HB0.out.trans (hB.mono HB0.out.size))
          have HS1 : Hid (w.heap.size + 1 ≤ W1.heap.size) := Lib.hid (by have := hB.size; have := HS0.out; omega)
          clear h_ hl hB))
    | (go_at_call 51
       first
       | (with_reducible refine (HCx2.out _ _ _ _ W1 HLx1_1.out HS1.out).mono ?_
          rintro e W2 h_
          obtain ⟨Ax2_3, cx2_3, Ax2_4, cx2_4, rfl, hl, hB⟩ := h_.open
          have HLx2_2 := Lib.hid hl
          have HZ2 := Lib.hid (blk_below HZ1.out hB)
          have HB2 := Lib.hid (HB1.out.trans (hB.mono HB1.out.size))
          have HS2 : Hid (w.heap.size + 1 ≤ W2.heap.size) := Lib.hid (by have := hB.size; have := HS1.out; omega)
          have k0 : W2.cell? ⟨w.heap.size, 0, none⟩ = some (.int .i64 0) := blk_cell HZ2.out 0
          have kf0 := blk_frozen HZ2.out 0
          have k1 : W2.cell? ⟨w.heap.size, 1, none⟩ = some (.int .i64 0) := blk_cell HZ2.out 1
          have kf1 := blk_frozen HZ2.out 1
          have k2 : W2.cell? ⟨w.heap.size, 2, none⟩ = some (.bool false) := blk_cell HZ2.out 2
          have kf2 := blk_frozen HZ2.out 2
          have k3 : W2.cell? ⟨w.heap.size, 3, none⟩ = some (.slice none 0 0) := blk_cell HZ2.out 3
          have kf3 := blk_frozen HZ2.out 3
          have k4 : W2.cell? ⟨w.heap.size, 4, none⟩ = some (.slice none 0 0) := blk_cell HZ2.out 4
          have kf4 := blk_frozen HZ2.out 4
          clear h_ hl hB)))
  obtain ⟨h5, hend⟩ := nw_end (b := w.heap.size) (B := w.heap.size + 1) (n := w.heap.size) (x := x2) HB2.out (Nat.le_refl _) (fun k hk => by omega) (Nat.le_succ _) HZ2.out HLx2_2.out.1 HLx2_2.out.2.1 HLx2_2.out.2.2.1 HLx2_2.out.2.2.2 rfl
  try simp only [Exit.inBlock, Exit.then]
  exact bodyPost_ret (results_c rfl _ _ _ _ _ _ _ rfl h5 Tryd.underlying33 rfl size33) rfl hend

/-- the trees -/
theorem mir_Add (dn : ByteArray) (l : List S58) : mir (dAdd dn l) = tOp 8 [tO dn, tL (l.map tAttr)] := by
  have h1 : ∀ m : List ByteArray, mirL (m.map fun s => (⟨0, 4, false, bytesOf s, []⟩ : S27)) = m.map tO := by
    intro m
    rw [mirL_eq, List.map_map]
    exact List.map_congr_left (fun s _ => by simp [mir, mirL, tO])
  have h2 : mirL (l.map fun a => (⟨0, 16, true, [], [⟨0, 4, false, bytesOf a.f0, []⟩, ⟨0, 17, true, [], a.f1.map fun s => ⟨0, 4, false, bytesOf s, []⟩⟩]⟩ : S27)) = l.map tAttr := by
    rw [mirL_eq, List.map_map]
    refine List.map_congr_left (fun a _ => ?_)
    simp only [Function.comp_apply, mir, mirL, h1]
    rfl
  unfold dAdd
  simp only [mir, mirL, h2]
  rfl
theorem dp_os (m : List ByteArray) : tdpL (m.map tO) ≤ 1 := by
  induction m with
  | nil => simp [tdpL]
  | cons s m ih => rw [List.map_cons, tdpL]; simp [tO, tdp, tdpL]; omega
theorem dp_as (l : List S58) : tdpL (l.map tAttr) ≤ 3 := by
  induction l with
  | nil => simp [tdpL]
  | cons a l ih =>
    have := dp_os a.f1
    rw [List.map_cons, tdpL]
    simp only [tAttr, tL, tSet, tO, tdp, tdpL] at this ⊢
    omega
theorem dp_Add (dn : ByteArray) (l : List S58) : tdp (mir (dAdd dn l)) ≤ 60 := by
  have := dp_as l
  rw [mir_Add]
  simp only [tOp, tL, tO, tdp, tdpL]
  omega
theorem sz_os (m : List ByteArray) : (∀ s, s ∈ m → s.size ≤ 200) → tsizeL (m.map tO) ≤ m.length * 201 := by
  induction m with
  | nil => intro _; simp [tsizeL]
  | cons s m ih =>
    intro h
    have h1 := ih (fun x hx => h x (List.mem_cons_of_mem _ hx))
    have h2 := h s (by simp)
    rw [List.map_cons, tsizeL, List.length_cons]
    simp only [tO, tsize, tsizeL, bytesOf_length]
    omega
/-- a short attribute of the reference's -/
def shortS (a : S58) : Prop := a.f0.size ≤ 200 ∧ a.f1.length ≤ 19 ∧ ∀ s, s ∈ a.f1 → s.size ≤ 200
theorem sz_attr (a : S58) (h : shortS a) : tsize (tAttr a) ≤ 5000 := by
  have h1 := sz_os a.f1 h.2.2
  have h2 := h.2.1
  have h3 := h.1
  simp only [tAttr, tL, tSet, tO, tsize, tsizeL, bytesOf_length, List.length_nil] at h1 ⊢
  omega
theorem sz_as (l : List S58) : (∀ a, a ∈ l → shortS a) → tsizeL (l.map tAttr) ≤ l.length * 5000 := by
  induction l with
  | nil => intro _; simp [tsizeL]
  | cons a l ih =>
    intro h
    have h1 := ih (fun x hx => h x (List.mem_cons_of_mem _ hx))
    have h2 := sz_attr a (h a (by simp))
    rw [List.map_cons, tsizeL, List.length_cons]
    omega
theorem shortS_of {a : S49} (h : shortA a) : shortS (attrOf a) := by
  refine ⟨h.1, by simp [attrOf]; exact h.2.1, fun s hs => ?_⟩
  obtain ⟨x, hx, rfl⟩ := List.mem_map.1 hs
  rw [strOf_size]
  exact h.2.2 x hx
theorem sz_Add (dn : ByteArray) (l : List S58) (hdn : dn.size ≤ 200) (hl : ∀ a, a ∈ l → shortS a) (hn : l.length ≤ 10) : tsize (mir (dAdd dn l)) ≤ 200000 := by
  have h1 := sz_as l hl
  rw [mir_Add]
  simp only [tOp, tL, tO, tsize, tsizeL, bytesOf_length, List.length_nil]
  omega
theorem mir_Del (dn : ByteArray) : mir (dDel dn) = ⟨1, 10, false, bytesOf dn, []⟩ := by simp [dDel, mir, mirL]
theorem dp_Del (dn : ByteArray) : tdp (mir (dDel dn)) ≤ 60 := by rw [mir_Del]; simp [tdp, tdpL]
theorem sz_Del (dn : ByteArray) (h : dn.size ≤ 200) : tsize (mir (dDel dn)) ≤ 200000 := by
  rw [mir_Del]
  simp only [tsize, tsizeL, bytesOf_length]
  omega

set_option maxHeartbeats 3200000 in
set_option maxRecDepth 100000 in
theorem fnAdd_any (dn : ByteArray) (l : List S49) (A : Option Addr) (c : Nat) (w : World) (hC : Kd.C k49 w A l.length l) (hc : l.length ≤ c) :
    Calls Tryd.prog 8 #[.string dn, .slice A l.length c] w fun e w' => e = .returned (.bool true) ∧ Below w.heap.size w w' := by
  have HB := Lib.hid (Below.refl w.heap.size w)
  by_cases h0 : 2147483647 < dn.size
  · have e1 : decide (2147483647 < (dn.size : Int)) = true := decide_eq_true (by omega)
    have e2 : decide (2147483647 < dn.size) = true := decide_eq_true h0
    clear h0 hC hc
    go_enter Tryd.func8, Tryd.ntmps8
    go_wp2
    go_ret
    exact ⟨rfl, HB.out⟩
  have e0_1 : decide (2147483647 < (dn.size : Int)) = false := decide_eq_false (by omega)
  have e0_2 : decide (2147483647 < dn.size) = false := decide_eq_false h0
  clear h0
  obtain ⟨k13, b13, hf13, hi13⟩ := fits13_ends l
  have HF13 : Hid (∀ W, W = w → Calls Tryd.prog 29 #[.slice A l.length c] W fun e w' => e = .returned (.bool b13) ∧ Below W.heap.size W w') := Lib.hid (fun W hW => laws_zzFits13.calls k13 A c l b13 W (by rw [hW]; exact hC) hc hf13)
  replace HF13 : Hid (Calls Tryd.prog 29 #[.slice A l.length c] w fun e w' => e = .returned (.bool b13) ∧ Below w.heap.size w w') := Lib.hid (HF13.out w rfl)
  clear hf13
  cases b13 with
  | false =>
    clear hi13 hC hc
    go_enter Tryd.func8, Tryd.ntmps8
    go_wp2_with (first
      | (go_at_call 29
         with_reducible refine HF13.out.mono ?_
         rintro e W1 ⟨rfl, hB1⟩
         have HB1 := Lib.hid hB1
         clear hB1))
    go_ret
    exact ⟨rfl, HB1.out⟩
  | true =>
  obtain ⟨hln, hfa⟩ := hi13 rfl
  clear hi13
  obtain ⟨kat, r, bat, hfat, hiat⟩ := attributes_ends l hln hfa
  have HAT : Hid (∀ W, Below w.heap.size w W → Calls Tryd.prog 22 #[.slice A l.length c] W fun e w' => ∃ v0_ : Value, e = .returned (.tuple #[v0_, .bool bat]) ∧ Kd.S k58 58 w' W.heap.size (fun _ => True) v0_ r ∧ Below W.heap.size W w') :=
    Lib.hid (fun W hb => laws_attributes.calls kat A c l r bat W (Kd.C_below hC hb) hc hfat)
  have HSH : Hid (∀ u W, W = u.alloc (.cells #[.string dn] 9) → Calls Tryd.prog 10 #[.slice (some ⟨u.heap.size, 0, none⟩) 1 1] W fun e w' => e = .returned (.bool (shortT [dn])) ∧ Below u.heap.size u w') := Lib.hid (fun u W hW => by
    have hb : W.heap[u.heap.size]? = some (.cells #[.string dn] 9 (0, 0)) := by rw [hW]; exact blk_new _ _
    have hB : Below u.heap.size u W := by rw [hW]; exact below_alloc (Below.refl _ _) _
    refine (short_any [dn] (some ⟨u.heap.size, 0, none⟩) 1 W (strs_block hb rfl (by simp)) (Nat.le_refl _) (by simp)).mono ?_
    rintro e w' ⟨he, hb'⟩
    exact ⟨he, hB.trans (hb'.mono hB.size)⟩)
  clear hfat hfa
  cases hsh : shortT [dn] with
  | false =>
    rw [hsh] at HSH
    clear hsh hiat hC hc hln
    go_enter Tryd.func8, Tryd.ntmps8
    go_wp2_with (first
      | (go_at_call 29
         with_reducible refine HF13.out.mono ?_
         rintro e W1 ⟨rfl, hB1⟩
         have HB1 := Lib.hid hB1
         have HAT1 := Lib.hid (HAT.out W1 hB1)
         clear hB1)
      | (go_at_call 22
         with_reducible refine HAT1.out.mono ?_
         rintro e W2 ⟨v2, rfl, hS2, hB2⟩
         obtain ⟨A2, c2, rfl, l2, _⟩ := Kd.S_reads hS2
         have HS2 := Lib.hid hS2
         have HB2 := Lib.hid (HB1.out.trans (hB2.mono HB1.out.size))
         clear hS2 hB2)
      | (go_at_call 10
         with_reducible refine (HSH.out W2 _ rfl).mono ?_
         rintro e W3 ⟨rfl, hB3⟩
         have HB3 := Lib.hid (HB2.out.trans (hB3.mono HB2.out.size))
         clear hB3)
      | (go_at_call 11
         refine (works_any _).mono ?_
         rintro e W9 ⟨rfl, hB9⟩
         have HB9 := Lib.hid (HB3.out.trans (hB9.mono HB3.out.size))
         clear hB9))
    go_ret
    exact ⟨rfl, HB9.out⟩
  | true =>
  rw [hsh] at HSH
  have zdn : dn.size ≤ 200 := by
    simp only [shortT, List.all_cons, List.all_nil, Bool.and_true, Bool.and_eq_true, decide_eq_true_eq] at hsh
    exact hsh.1
  clear hsh
  cases bat with
  | false =>
    clear hiat hC hc hln
    go_enter Tryd.func8, Tryd.ntmps8
    go_wp2_with (first
      | (go_at_call 29
         with_reducible refine HF13.out.mono ?_
         rintro e W1 ⟨rfl, hB1⟩
         have HB1 := Lib.hid hB1
         have HAT1 := Lib.hid (HAT.out W1 hB1)
         clear hB1)
      | (go_at_call 22
         with_reducible refine HAT1.out.mono ?_
         rintro e W2 ⟨v2, rfl, hS2, hB2⟩
         obtain ⟨A2, c2, rfl, l2, _⟩ := Kd.S_reads hS2
         have HS2 := Lib.hid hS2
         have HB2 := Lib.hid (HB1.out.trans (hB2.mono HB1.out.size))
         clear hS2 hB2)
      | (go_at_call 10
         with_reducible refine (HSH.out W2 _ rfl).mono ?_
         rintro e W3 ⟨rfl, hB3⟩
         have HB3 := Lib.hid (HB2.out.trans (hB3.mono HB2.out.size))
         clear hB3)
      | (go_at_call 11
         refine (works_any _).mono ?_
         rintro e W9 ⟨rfl, hB9⟩
         have HB9 := Lib.hid (HB3.out.trans (hB9.mono HB3.out.size))
         clear hB9))
    go_ret
    exact ⟨rfl, HB9.out⟩
  | true =>
    obtain ⟨hr, hn10, hsa⟩ := hiat rfl
    clear hiat
    subst hr
    have hss : ∀ a, a ∈ l.map attrOf → shortS a := fun a ha => by obtain ⟨b, hb, rfl⟩ := List.mem_map.1 ha; exact shortS_of (hsa b hb)
    have hok : ∀ a, a ∈ l.map attrOf → okA a := fun a ha => by obtain ⟨b, hb, rfl⟩ := List.mem_map.1 ha; exact okA_of (hsa b hb)
    have HI0 : Hid (∀ W, Below w.heap.size w W → Calls Tryd.prog 30 #[.string dn, .slice A l.length c] W (OpRes W (dAdd dn (l.map attrOf)))) := Lib.hid (fun W hb => iAdd_any dn l A c W (Kd.C_below hC hb) (by omega) (fun a ha => okA_of (hsa a ha)) (by omega))
    have HSPg : Hid (∀ (A2 : Option Addr) (c2 : Nat) W, Kd.C k58 W A2 (l.map attrOf).length (l.map attrOf) → Calls Tryd.prog 32 #[.string dn, .slice A2 (l.map attrOf).length c2] W (Nw W.heap.size W (tOp 8 [tO dn, tL ((l.map attrOf).map tAttr)]))) := Lib.hid (fun A2 c2 W h => sAdd_nw dn (l.map attrOf) A2 c2 W h (by omega) hok (by rw [List.length_map]; omega))
    have hmir0 := mir_Add dn (l.map attrOf)
    have hdp0 := dp_Add dn (l.map attrOf)
    have hts0 := sz_Add dn (l.map attrOf) zdn hss (by rw [List.length_map]; exact hn10)
    obtain ⟨p0, hp0⟩ : ∃ p, p = dAdd dn (l.map attrOf) := ⟨_, rfl⟩
    obtain ⟨y0, hy0⟩ : ∃ y, y = tOp 8 [tO dn, tL ((l.map attrOf).map tAttr)] := ⟨_, rfl⟩
    obtain ⟨m, hm⟩ : ∃ m, m = l.map attrOf := ⟨_, rfl⟩
    rw [← hp0] at HI0 hmir0 hdp0 hts0
    rw [← hy0] at HSPg hmir0
    rw [← hm] at HSPg HAT
    have HSA0 : Hid (∀ (A3 : Option Addr) (c3 : Nat) (A4 : Option Addr) (c4 : Nat) (B3 : Option Addr) (d3 : Nat) (B4 : Option Addr) (d4 : Nat) (W : World), p0.f3.length ≤ c3 → (Kd.int .u8).C W A3 p0.f3.length p0.f3 → p0.f4.length ≤ c4 → k27.C W A4 p0.f4.length p0.f4 → y0.f3.length ≤ d3 → (Kd.int .u8).C W B3 y0.f3.length y0.f3 → y0.f4.length ≤ d4 → k33.C W B4 y0.f4.length y0.f4 →
        Calls Tryd.prog 13 #[.agg #[.int .i64 p0.f0, .int .i64 p0.f1, .bool p0.f2, .slice A3 p0.f3.length c3, .slice A4 p0.f4.length c4], .bool true, .agg #[.int .i64 y0.f0, .int .i64 y0.f1, .bool y0.f2, .slice B3 y0.f3.length d3, .slice B4 y0.f4.length d4]] W fun e w' => e = .returned (.bool true) ∧ Below W.heap.size W w') :=
      Lib.hid (fun A3 c3 A4 c4 B3 d3 B4 d4 W q1 q2 q3 q4 q5 q6 q7 q8 => same_any p0 hdp0 hts0 A3 c3 A4 c4 y0 hmir0.symm B3 d3 B4 d4 W q1 q2 q3 q4 q5 q6 q7 q8)
    have HI1 : Hid (∀ W, Below w.heap.size w W → Calls Tryd.prog 31 #[.string dn] W (OpRes W (dDel dn))) := Lib.hid (fun W hb => iDel_any dn W (by omega))
    have hmir1 := mir_Del dn
    have hdp1 := dp_Del dn
    have hts1 := sz_Del dn zdn
    have HSPh : Hid (∀ W, Calls Tryd.prog 33 #[.string dn] W (Nw W.heap.size W (⟨1, 10, false, bytesOf dn, []⟩ : S33))) := Lib.hid (fun W => sDelete_nw dn W (by omega))
    obtain ⟨p1, hp1⟩ : ∃ p, p = dDel dn := ⟨_, rfl⟩
    obtain ⟨y1, hy1⟩ : ∃ y : S33, y = ⟨1, 10, false, bytesOf dn, []⟩ := ⟨_, rfl⟩
    rw [← hp1] at HI1 hmir1 hdp1 hts1
    rw [← hy1] at HSPh hmir1
    have HSA1 : Hid (∀ (A3 : Option Addr) (c3 : Nat) (A4 : Option Addr) (c4 : Nat) (B3 : Option Addr) (d3 : Nat) (B4 : Option Addr) (d4 : Nat) (W : World), p1.f3.length ≤ c3 → (Kd.int .u8).C W A3 p1.f3.length p1.f3 → p1.f4.length ≤ c4 → k27.C W A4 p1.f4.length p1.f4 → y1.f3.length ≤ d3 → (Kd.int .u8).C W B3 y1.f3.length y1.f3 → y1.f4.length ≤ d4 → k33.C W B4 y1.f4.length y1.f4 →
        Calls Tryd.prog 13 #[.agg #[.int .i64 p1.f0, .int .i64 p1.f1, .bool p1.f2, .slice A3 p1.f3.length c3, .slice A4 p1.f4.length c4], .bool true, .agg #[.int .i64 y1.f0, .int .i64 y1.f1, .bool y1.f2, .slice B3 y1.f3.length d3, .slice B4 y1.f4.length d4]] W fun e w' => e = .returned (.bool true) ∧ Below W.heap.size W w') :=
      Lib.hid (fun A3 c3 A4 c4 B3 d3 B4 d4 W q1 q2 q3 q4 q5 q6 q7 q8 => same_any p1 hdp1 hts1 A3 c3 A4 c4 y1 hmir1.symm B3 d3 B4 d4 W q1 q2 q3 q4 q5 q6 q7 q8)
    have HC := Lib.hid hC
    clear hp0 hy0 hm hmir0 hdp0 hts0 hp1 hy1 hmir1 hdp1 hts1 zdn hss hok hn10 hsa hln hC hc
    go_enter Tryd.func8, Tryd.ntmps8
    go_wp2_with (first
      | (go_at_call 29
         with_reducible refine HF13.out.mono ?_
         rintro e W1 ⟨rfl, hB1⟩
         have HB1 := Lib.hid hB1
         have HAT1 := Lib.hid (HAT.out W1 hB1)
         clear hB1)
      | (go_at_call 22
         with_reducible refine HAT1.out.mono ?_
         rintro e W2 ⟨v2, rfl, hS2, hB2⟩
         obtain ⟨A2, c2, rfl, l2, _⟩ := Kd.S_reads hS2
         have HS2 := Lib.hid hS2
         have HB2 := Lib.hid (HB1.out.trans (hB2.mono HB1.out.size))
         have HL2 := Lib.hid (fun (W : World) (hb : Below W2.heap.size W2 W) => Kd.C_below (Kd.S_reads' hS2).2.2 hb)
         have HSP0 : Hid (∀ W, Below W2.heap.size W2 W → Calls Tryd.prog 32 #[.string dn, .slice A2 m.length c2] W (Nw W.heap.size W y0)) := Lib.hid (fun W hb => HSPg.out A2 c2 W (Kd.C_below (Kd.S_reads' hS2).2.2 hb))
         have HSP1 : Hid (∀ W, Below W2.heap.size W2 W → Calls Tryd.prog 33 #[.string dn] W (Nw W.heap.size W y1)) := Lib.hid (fun W hb => HSPh.out W)
         replace HI0 := Lib.hid (fun (W : World) (hb : Below W2.heap.size W2 W) => HI0.out W ((HB1.out.trans (hB2.mono HB1.out.size)).trans (hb.mono (HB1.out.trans (hB2.mono HB1.out.size)).size)))
         replace HI1 := Lib.hid (fun (W : World) (hb : Below W2.heap.size W2 W) => HI1.out W ((HB1.out.trans (hB2.mono HB1.out.size)).trans (hb.mono (HB1.out.trans (hB2.mono HB1.out.size)).size)))
         clear hS2 hB2)
      | (go_at_call 10
         with_reducible refine (HSH.out W2 _ rfl).mono ?_
         rintro e W3 ⟨rfl, hB3⟩
         have HB3 := Lib.hid hB3
         clear hB3)
      | (go_at_call 30
         with_reducible refine (HI0.out W3 HB3.out).mono ?_
         rintro e R0 ⟨A0_3, c0_3, A0_4, c0_4, rfl, l3, h3, l4, h4, hB2⟩
         have HBR0 := Lib.hid (HB3.out.trans (hB2.mono HB3.out.size))
         have HF0 := Lib.hid (And.intro l3 (And.intro (Kd.F_now h3) (And.intro l4 (Kd.F_now h4))))
         clear l3 h3 l4 h4 hB2)
      | (go_at_call 31
         obtain ⟨V0, hV⟩ : ∃ V, V = R0.alloc (.cells #[.int .i64 p0.f0, .int .i64 p0.f1, .bool p0.f2, .slice A0_3 p0.f3.length c0_3, .slice A0_4 p0.f4.length c0_4] 27) := ⟨_, rfl⟩
         rw [← hV]
         have hbV : Below R0.heap.size R0 V0 := by rw [hV]; exact below_alloc (Below.refl _ _) _
         have HX0_0 : Hid (V0.heap[R0.heap.size]? = some (.cells #[.int .i64 p0.f0, .int .i64 p0.f1, .bool p0.f2, .slice A0_3 p0.f3.length c0_3, .slice A0_4 p0.f4.length c0_4] 27 (0, 0))) := Lib.hid (by rw [hV]; exact blk_new _ _)
         clear hV
         have HBV0 := Lib.hid (HBR0.out.trans (hbV.mono HBR0.out.size))
         have HFV0 := Lib.hid (And.intro HF0.out.1 (And.intro (Kd.C_below HF0.out.2.1 hbV) (And.intro HF0.out.2.2.1 (Kd.C_below HF0.out.2.2.2 hbV))))
         clear hbV
         with_reducible refine (HI1.out V0 HBV0.out).mono ?_
         rintro e R1 ⟨A1_3, c1_3, A1_4, c1_4, rfl, l3, h3, l4, h4, hB2⟩
         have HBR1 := Lib.hid (HBV0.out.trans (hB2.mono HBV0.out.size))
         have HF1 := Lib.hid (And.intro l3 (And.intro (Kd.F_now h3) (And.intro l4 (Kd.F_now h4))))
         have HX0_1 := Lib.hid (blk_below HX0_0.out hB2)
         have HF0_1 := Lib.hid (And.intro HFV0.out.1 (And.intro (Kd.C_below HFV0.out.2.1 hB2) (And.intro HFV0.out.2.2.1 (Kd.C_below HFV0.out.2.2.2 hB2))))
         clear l3 h3 l4 h4 hB2))
    obtain ⟨V1, hV⟩ : ∃ V, V = R1.alloc (.cells #[.int .i64 p1.f0, .int .i64 p1.f1, .bool p1.f2, .slice A1_3 p1.f3.length c1_3, .slice A1_4 p1.f4.length c1_4] 27) := ⟨_, rfl⟩
    rw [← hV]
    have hbV : Below R1.heap.size R1 V1 := by rw [hV]; exact below_alloc (Below.refl _ _) _
    have hX1 : V1.heap[R1.heap.size]? = some (.cells #[.int .i64 p1.f0, .int .i64 p1.f1, .bool p1.f2, .slice A1_3 p1.f3.length c1_3, .slice A1_4 p1.f4.length c1_4] 27 (0, 0)) := by rw [hV]; exact blk_new _ _
    clear hV
    have hX0 := blk_below HX0_1.out hbV
    have HBD : Hid (Below R1.heap.size R1 V1.drew) := Lib.hid hbV.drew
    have a0_0 : V1.drew.cell? ⟨R0.heap.size, 0, none⟩ = some (.int .i64 p0.f0) := blk_cell hX0 0
    have a0_1 : V1.drew.cell? ⟨R0.heap.size, 1, none⟩ = some (.int .i64 p0.f1) := blk_cell hX0 1
    have a0_2 : V1.drew.cell? ⟨R0.heap.size, 2, none⟩ = some (.bool p0.f2) := blk_cell hX0 2
    have a0_3 : V1.drew.cell? ⟨R0.heap.size, 3, none⟩ = some (.slice A0_3 p0.f3.length c0_3) := blk_cell hX0 3
    have a0_4 : V1.drew.cell? ⟨R0.heap.size, 4, none⟩ = some (.slice A0_4 p0.f4.length c0_4) := blk_cell hX0 4
    have HY0 : Hid (V1.drew.heap[R0.heap.size]? = some (.cells #[.int .i64 p0.f0, .int .i64 p0.f1, .bool p0.f2, .slice A0_3 p0.f3.length c0_3, .slice A0_4 p0.f4.length c0_4] 27 (0, 0))) := Lib.hid hX0
    have a1_0 : V1.drew.cell? ⟨R1.heap.size, 0, none⟩ = some (.int .i64 p1.f0) := blk_cell hX1 0
    have a1_1 : V1.drew.cell? ⟨R1.heap.size, 1, none⟩ = some (.int .i64 p1.f1) := blk_cell hX1 1
    have a1_2 : V1.drew.cell? ⟨R1.heap.size, 2, none⟩ = some (.bool p1.f2) := blk_cell hX1 2
    have a1_3 : V1.drew.cell? ⟨R1.heap.size, 3, none⟩ = some (.slice A1_3 p1.f3.length c1_3) := blk_cell hX1 3
    have a1_4 : V1.drew.cell? ⟨R1.heap.size, 4, none⟩ = some (.slice A1_4 p1.f4.length c1_4) := blk_cell hX1 4
    have HY1 : Hid (V1.drew.heap[R1.heap.size]? = some (.cells #[.int .i64 p1.f0, .int .i64 p1.f1, .bool p1.f2, .slice A1_3 p1.f3.length c1_3, .slice A1_4 p1.f4.length c1_4] 27 (0, 0))) := Lib.hid hX1
    have HBV := Lib.hid (HBR1.out.trans (HBD.out.mono HBR1.out.size))
    have HG0 := Lib.hid (And.intro HF0_1.out.1 (And.intro (Kd.C_below HF0_1.out.2.1 HBD.out) (And.intro HF0_1.out.2.2.1 (Kd.C_below HF0_1.out.2.2.2 HBD.out))))
    have HG1 := Lib.hid (And.intro HF1.out.1 (And.intro (Kd.C_below HF1.out.2.1 HBD.out) (And.intro HF1.out.2.2.1 (Kd.C_below HF1.out.2.2.2 HBD.out))))
    clear hbV hX0 hX1
    go_region_with (first
      | (go_at_call 32
         with_reducible refine (HSP0.out _ HBV.out).mono ?_
         rintro e S0 h5
         obtain ⟨B0_3, d0_3, B0_4, d0_4, rfl, hl5, hB5⟩ := h5.open
         have HBS0 := Lib.hid (HBV.out.trans (hB5.mono HBV.out.size))
         have hx0 := blk_below HY0.out hB5
         have u0_0_0 : S0.cell? ⟨R0.heap.size, 0, none⟩ = some (.int .i64 p0.f0) := blk_cell hx0 0
         have u0_0_1 : S0.cell? ⟨R0.heap.size, 1, none⟩ = some (.int .i64 p0.f1) := blk_cell hx0 1
         have u0_0_2 : S0.cell? ⟨R0.heap.size, 2, none⟩ = some (.bool p0.f2) := blk_cell hx0 2
         have u0_0_3 : S0.cell? ⟨R0.heap.size, 3, none⟩ = some (.slice A0_3 p0.f3.length c0_3) := blk_cell hx0 3
         have u0_0_4 : S0.cell? ⟨R0.heap.size, 4, none⟩ = some (.slice A0_4 p0.f4.length c0_4) := blk_cell hx0 4
         have HGS0_0 := Lib.hid (And.intro HG0.out.1 (And.intro (Kd.C_below HG0.out.2.1 hB5) (And.intro HG0.out.2.2.1 (Kd.C_below HG0.out.2.2.2 hB5))))
         have hx1 := blk_below HY1.out hB5
         have u0_1_0 : S0.cell? ⟨R1.heap.size, 0, none⟩ = some (.int .i64 p1.f0) := blk_cell hx1 0
         have u0_1_1 : S0.cell? ⟨R1.heap.size, 1, none⟩ = some (.int .i64 p1.f1) := blk_cell hx1 1
         have u0_1_2 : S0.cell? ⟨R1.heap.size, 2, none⟩ = some (.bool p1.f2) := blk_cell hx1 2
         have u0_1_3 : S0.cell? ⟨R1.heap.size, 3, none⟩ = some (.slice A1_3 p1.f3.length c1_3) := blk_cell hx1 3
         have u0_1_4 : S0.cell? ⟨R1.heap.size, 4, none⟩ = some (.slice A1_4 p1.f4.length c1_4) := blk_cell hx1 4
         have HYS1_0 := Lib.hid hx1
         have HGS1_0 := Lib.hid (And.intro HG1.out.1 (And.intro (Kd.C_below HG1.out.2.1 hB5) (And.intro HG1.out.2.2.1 (Kd.C_below HG1.out.2.2.2 hB5))))
         have HQ0 := Lib.hid (HSA0.out A0_3 c0_3 A0_4 c0_4 B0_3 d0_3 B0_4 d0_4 S0 HGS0_0.out.1 HGS0_0.out.2.1 HGS0_0.out.2.2.1 HGS0_0.out.2.2.2 hl5.1 (Kd.F_now hl5.2.1) hl5.2.2.1 (Kd.F_now hl5.2.2.2))
         clear h5 hl5 hB5 hx0 hx1)
      | (go_at_call 33
         with_reducible refine (HSP1.out _ HBQ0.out).mono ?_
         rintro e S1 h5
         obtain ⟨B1_3, d1_3, B1_4, d1_4, rfl, hl5, hB5⟩ := h5.open
         have HBS1 := Lib.hid (HBQ0.out.trans (hB5.mono HBQ0.out.size))
         have hx1 := blk_below HY1_0.out hB5
         have u1_1_0 : S1.cell? ⟨R1.heap.size, 0, none⟩ = some (.int .i64 p1.f0) := blk_cell hx1 0
         have u1_1_1 : S1.cell? ⟨R1.heap.size, 1, none⟩ = some (.int .i64 p1.f1) := blk_cell hx1 1
         have u1_1_2 : S1.cell? ⟨R1.heap.size, 2, none⟩ = some (.bool p1.f2) := blk_cell hx1 2
         have u1_1_3 : S1.cell? ⟨R1.heap.size, 3, none⟩ = some (.slice A1_3 p1.f3.length c1_3) := blk_cell hx1 3
         have u1_1_4 : S1.cell? ⟨R1.heap.size, 4, none⟩ = some (.slice A1_4 p1.f4.length c1_4) := blk_cell hx1 4
         have HGS1_1 := Lib.hid (And.intro HG1_0.out.1 (And.intro (Kd.C_below HG1_0.out.2.1 hB5) (And.intro HG1_0.out.2.2.1 (Kd.C_below HG1_0.out.2.2.2 hB5))))
         have HQ1 := Lib.hid (HSA1.out A1_3 c1_3 A1_4 c1_4 B1_3 d1_3 B1_4 d1_4 S1 HGS1_1.out.1 HGS1_1.out.2.1 HGS1_1.out.2.2.1 HGS1_1.out.2.2.2 hl5.1 (Kd.F_now hl5.2.1) hl5.2.2.1 (Kd.F_now hl5.2.2.2))
         clear h5 hl5 hB5 hx1)
      | (go_at_call 13
         first
         | (with_reducible refine HQ0.out.mono ?_
            rintro e Q0 ⟨rfl, hB6⟩
            have HBQ0 := Lib.hid (HBS0.out.trans (hB6.mono HBS0.out.size))
            have HY1_0 := Lib.hid (blk_below HYS1_0.out hB6)
            have v0_1_0 : Q0.cell? ⟨R1.heap.size, 0, none⟩ = some (.int .i64 p1.f0) := blk_cell HY1_0.out 0
            have v0_1_1 : Q0.cell? ⟨R1.heap.size, 1, none⟩ = some (.int .i64 p1.f1) := blk_cell HY1_0.out 1
            have v0_1_2 : Q0.cell? ⟨R1.heap.size, 2, none⟩ = some (.bool p1.f2) := blk_cell HY1_0.out 2
            have v0_1_3 : Q0.cell? ⟨R1.heap.size, 3, none⟩ = some (.slice A1_3 p1.f3.length c1_3) := blk_cell HY1_0.out 3
            have v0_1_4 : Q0.cell? ⟨R1.heap.size, 4, none⟩ = some (.slice A1_4 p1.f4.length c1_4) := blk_cell HY1_0.out 4
            have HG1_0 := Lib.hid (And.intro HGS1_0.out.1 (And.intro (Kd.C_below HGS1_0.out.2.1 hB6) (And.intro HGS1_0.out.2.2.1 (Kd.C_below HGS1_0.out.2.2.2 hB6))))
            clear hB6)
         | (with_reducible refine HQ1.out.mono ?_
            rintro e Q1 ⟨rfl, hB6⟩
            have HBQ1 := Lib.hid (HBS1.out.trans (hB6.mono HBS1.out.size))
            clear hB6)))
    all_goals (
      go_wp2
      go_ret
      exact ⟨rfl, HB2.out.trans (HBQ1.out.mono HB2.out.size)⟩)
end Go.Proofs.YtbmcpjkhnhbjdaaDoor.Ber

namespace Go.Proofs.YtbmcpjkhnhbjdaaDoor.Open
open Go.RowKit Go.Proofs.YtbmcpjkhnhbjdaaDoorW.PrintWords Go.Proofs.YtbmcpjkhnhbjdaaDoor.PFnEncode
set_option linter.unusedVariables false
set_option linter.unusedSimpArgs false
section
variable {H : Type} {enc : TypeId × Value → H} {W : World}
theorem opens_attr (N : Nat) : Opens enc Tryd.prog W (N + 3) 49 k49 (fun _ => True) := by
  have h1 : Opens enc Tryd.prog W (N + 1) 24 (Kd.slice 5 (Kd.int .u8)) _ := Opens.slice (opens_int N Tryd.underlying5) Tryd.underlying24 (by kernel_rfl) (of_decide_eq_true (by kernel_rfl))
  have h2 : Opens enc Tryd.prog W (N + 2) 47 (Kd.slice 24 (Kd.slice 5 (Kd.int .u8))) _ := Opens.slice h1 Tryd.underlying47 (by kernel_rfl) (of_decide_eq_true (by kernel_rfl))
  have hst := Opens.struct (P := Tryd.prog) (enc := enc) (W := W) Tryd.underlying49 (OpensFrom.cons (opens_string (N + 2) Tryd.underlying9) (OpensFrom.one h2 (by kernel_rfl) (by kernel_rfl)) (by kernel_rfl))
  exact (hst.iso (fun x : S49 => (x.f0, x.f1)) (fun y => ⟨y.1, y.2⟩) (fun _ => rfl)).imp (fun _ _ => trivial)
theorem opensA (N : Nat) : Opens enc Tryd.prog W (N + 4) 55 (Kd.slice 49 k49) (fun _ => True) :=
  (Opens.slice (opens_attr N) Tryd.underlying55 (by kernel_rfl) (of_decide_eq_true (by kernel_rfl))).imp (fun _ _ => trivial)
theorem opensC (N : Nat) : Opens enc Tryd.prog W (N + 5) 44 (Kd.slice 51 k51) (fun _ => True) := by
  have hst := Opens.struct (P := Tryd.prog) (enc := enc) (W := W) Tryd.underlying51 (OpensFrom.cons (opens_int (N + 3) (k := .i64) Tryd.underlying3) (OpensFrom.one (opens_attr N) (by kernel_rfl) (by kernel_rfl)) (by kernel_rfl))
  exact (Opens.slice (hst.iso (fun x : S51 => (x.f0, x.f1)) (fun y => ⟨y.1, y.2⟩) (fun _ => rfl)) Tryd.underlying44 (by kernel_rfl) (of_decide_eq_true (by kernel_rfl))).imp (fun _ _ => trivial)
end
end Go.Proofs.YtbmcpjkhnhbjdaaDoor.Open

namespace Go.Proofs.YtbmcpjkhnhbjdaaDoor.RowFnAdd
open Go.ChangeShapes Go.WideShapes Go.ChangeAt Go.RowKit
open Go.ChangeMaps (open_string shut_string)
set_option linter.unusedVariables false
set_option linter.unusedSimpArgs false
theorem own : ownKnob Tryd.prog.godebug = none := by kernel_rfl
theorem laidOut : laidOutB Tryd.prog = true := by kernel_rfl
set_option maxRecDepth 100000 in
theorem lifted (os : Os) (started : os.Started) (H : Type) (enc : TypeId × Value → H) :
    ReturnsInHanded {} Tryd.checked os 8 .any (fun w args => (Rows.fnAddSpec.pre enc Tryd.prog Tryd.f8 [] false w args ∧ laidMetH Tryd.prog Rows.fnAddRow.laid w) ∧ sizedMet enc Tryd.prog Tryd.f8 (OpenSpec.ofChange Rows.fnAddSpec) false w args)
      (Rows.fnAddSpec.post enc Tryd.prog Tryd.f8 false true false false) := by
  refine returnsInHanded_of_change_and (C := Tryd.checked) (X := fun w _ => laidMetH Tryd.prog Rows.fnAddRow.laid w) (fun _ _ _ hh h => h.of_heap hh) own started (by kernel_rfl) Tryd.func8
    (ChangeSpec.witness_shaped (enc := enc) (C := Tryd.checked) (os := os) (X := fun w _ => laidMetH Tryd.prog Rows.fnAddRow.laid w) false (World.laidAll Tryd.prog os Rows.fnAddRow.laid) #[.string ByteArray.empty, .slice none 0 0] 8 (World.laidAll_os _ _ _)
      (World.shaped_of_ZipB (by kernel_rfl) (by kernel_rfl)) (by kernel_rfl) (by kernel_rfl) (by kernel_rfl)
      (by rw [MakeChecks.laidMetH_plain _ _ _ (by kernel_rfl)]; exact laidMet_laidAll _ (by kernel_rfl) (by kernel_rfl))) ?_
  intro W base args ds gs before hval0 hW _ hsz0 _ _
  have hval : ∀ (j : Nat) t v, Tryd.f8.params[j]? = some t → args[j]? = some v → Value.okWide Tryd.prog W .any base t v := hval0
  have hsz : (DataW.weightsEach Tryd.prog (Tryd.f8.params.toList ++ Rows.fnAddSpec.plain.varTypes Tryd.prog) (ds ++ gs)).all (· ≤ reachBytes) = true := hsz0
  have hW' := hW
  obtain ⟨p, q, hA0, hV, rfl, _, _⟩ := hW
  have hA : DataW.TrodAll enc Tryd.prog W 0 (fun _ => true) true Tryd.f8.params.toList args.toList ds p := hA0
  rw [Tryd.params8] at hA hval hsz
  obtain ⟨v0, vs0, d0, ds0, p0, q0, hargs, rfl, rfl, h0, r0⟩ := trodAll_cons hA
  obtain ⟨v1, vs1, d1, ds1, p1, q1, rfl, rfl, rfl, h1, r1⟩ := trodAll_cons r0
  obtain ⟨rfl, rfl, rfl⟩ := trodAll_nil r1
  obtain rfl : args = #[v0, v1] := by cases args; simp_all
  obtain ⟨rfl, rfl⟩ := trodVars_none hV
  have hw : ∀ y ∈ DataW.weightsEach Tryd.prog [9, 55] [d0, d1], y ≤ reachBytes := fun y hy => of_decide_eq_true (List.all_eq_true.1 hsz y hy)
  obtain ⟨a0, rfl, rfl, rfl, y0⟩ := open_string Tryd.underlying9 (hval 0 9 v0 rfl rfl) h0
  have lt1 : ∀ x ∈ p1, x.block < W.heap.size := by obtain ⟨m, hm⟩ := h1; exact DataW.trod_lt m _ _ _ hm
  obtain ⟨A1, l1, c1, rfl⟩ := okWide_slice Tryd.underlying55 (hval 1 55 v1 rfl rfl)
  obtain ⟨f1, hf1⟩ := h1
  obtain ⟨x1, ⟨B1, e1, hk1, g1, m1⟩, _⟩ := (Open.opensA (enc := enc) (W := W) f1).down (Nat.le_add_right _ 4) f1 (Nat.le_refl _) _ d1 p1 hf1 (fun y hy => hw y (List.mem_append.2 (.inr (List.mem_append.2 (.inl hy)))))
  have hv1 : Value.slice A1 l1 c1 = .slice B1 x1.length e1 := by simpa [Value.cells] using hk1
  injection hv1 with qa1 qb1 qc1
  subst qa1 qb1 qc1
  clear hA0 hval0 hsz0
  refine (Ber.fnAdd_any a0 x1 A1 c1 W m1 g1).mono fun e W' ⟨he, bel⟩ => ?_
  subst he
  exact ⟨_, rfl, _, _, _, [], _, [], hW', trodAll_mk1 (shut_bool Tryd.underlying4 _), (trodAll_cons_mk (shut_string Tryd.underlying9 y0) (trodAll_cons_mk (Below.trod laidOut (by kernel_rfl) (of_decide_eq_true (by kernel_rfl)) ⟨f1, hf1⟩ bel lt1) trodAll_mk0)), rfl, bel.frame _, fun h => by cases h⟩
end Go.Proofs.YtbmcpjkhnhbjdaaDoor.RowFnAdd

namespace Go.Proofs.YtbmcpjkhnhbjdaaDoor.Facts
theorem joined_of {P : Program} {f : FuncId} {fn : Func} {s : ChangeSpec} {c : OpenClaim} 
    (h0 : (c.wf (OpenSpec.ofChange s)) = true)
    (h1 : (laidOutB P) = true)
    (h2 : (mapsRowed P) = true)
    (h3 : (fn.params.all (P.readableRec ·)) = true)
    (h4 : (namedTie P c.named s.vars) = true)
    (h5 : ((c.stops == [])) = true)
    (h6 : ((P.stops == [])) = true)
    (h7 : ((c.knobs == [])) = true)
    (h8 : ((P.stopKnobs == [])) = true)
    (h9 : ((c.inPlace == P.inPlace f)) = true)
    (h10 : ((c.unfollowed == P.unfollowed f)) = true)
    (h11 : ((c.recurses == P.recurses f)) = true)
    (h12 : ((c.named == P.varsNamed f)) = true)
    (h13 : ((c.maps == (fn.params.toList ++ s.plain.varTypes P).any (P.mapsRec ·))) = true)
    (h14 : ((c.ifaces == (fn.params.toList ++ s.plain.varTypes P).any (P.ifacesRec ·))) = true)
    (h15 : ((c.mapsOut == P.mapsAmong fn.resultTypes.toList)) = true)
    (h16 : ((c.loops == (fn.params.toList ++ s.plain.varTypes P).any (P.loopsFrom ·))) = true)
    (h17 : ((c.wideKeys == (fn.params.toList ++ s.plain.varTypes P ++ fn.resultTypes.toList).any (P.wideKeysFrom ·))) = true)
    (h18 : (s.vars.all (P.varReadable ·)) = true)
    (h19 : (fn.resultTypes.all (fun t => P.readableRec t && decide (t < P.types.size))) = true)
    (h20 : ((c.ifacesOut == fn.resultTypes.toList.any (P.ifacesRec ·))) = true)
    (h21 : ((c.loopsOut == fn.resultTypes.toList.any (P.loopsFrom ·))) = true)
    (h22 : ((c.plainKeys == P.plainKeys)) = true)
    (h23 : (c.shortTexts.isNone) = true)
    (h24 : (P.stopsHeard) = true)
    (h25 : (P.mayEnter) = true)
    (h26 : ((c.lifted == P.liftsFinal)) = true)
    (h27 : ((P.make == some c.make)) = true)
    (h28 : ((c.kinds == (if c.domain.isEmpty then [] else fn.params.toList.map fun t => match P.underlying t with | some (.int k) => some k | _ => none))) = true)
    (h29 : ((c.pinned == c.pinnedBy)) = true)
    (h30 : ((c.veiled == (fn.params.toList ++ s.plain.varTypes P ++ fn.resultTypes.toList).any (P.veiledRec ·))) = true)
    (h31 : (c.veiledFits P fn.params.toList (fn.params.toList ++ s.plain.varTypes P ++ fn.resultTypes.toList)) = true) : joinedFacts P f fn s c = true := by
  simp only [joinedFacts, Bool.and_eq_true]
  exact ⟨⟨⟨⟨⟨⟨⟨⟨⟨⟨⟨⟨⟨⟨⟨⟨⟨⟨⟨⟨⟨⟨⟨⟨⟨⟨⟨⟨⟨⟨⟨h0, h1⟩, h2⟩, h3⟩, h4⟩, h5⟩, h6⟩, h7⟩, h8⟩, h9⟩, h10⟩, h11⟩, h12⟩, h13⟩, h14⟩, h15⟩, h16⟩, h17⟩, h18⟩, h19⟩, h20⟩, h21⟩, h22⟩, h23⟩, h24⟩, h25⟩, h26⟩, h27⟩, h28⟩, h29⟩, h30⟩, h31⟩
theorem k1 : (laidOutB Tryd.prog) = true := by kernel_rfl
theorem k2 : (mapsRowed Tryd.prog) = true := by kernel_rfl
theorem k6 : ((Tryd.prog.stops == [])) = true := by kernel_rfl
theorem k8 : ((Tryd.prog.stopKnobs == [])) = true := by kernel_rfl
theorem k22 : ((Rows.fnAddRow.plainKeys == Tryd.prog.plainKeys)) = true := by kernel_rfl
theorem k24 : (Tryd.prog.stopsHeard) = true := by kernel_rfl
theorem k25 : (Tryd.prog.mayEnter) = true := by kernel_rfl
theorem k26 : ((Rows.fnAddRow.lifted == Tryd.prog.liftsFinal)) = true := by kernel_rfl
theorem k27 : ((Tryd.prog.make == some Rows.fnAddRow.make)) = true := by kernel_rfl
end Go.Proofs.YtbmcpjkhnhbjdaaDoor.Facts

namespace Go.Proofs.YtbmcpjkhnhbjdaaDoor.OverFnAdd
open Go.ChangeShapes Go.WideShapes Go.ChangeAt Go.RowKit
theorem k0 : (Rows.fnAddRow.wf (OpenSpec.ofChange Rows.fnAddSpec)) = true := by kernel_rfl
theorem k1 : (laidOutB Tryd.prog) = true := Facts.k1
theorem k2 : (mapsRowed Tryd.prog) = true := Facts.k2
theorem k3 : (Tryd.f8.params.all (Tryd.prog.readableRec ·)) = true := by kernel_rfl
theorem k4 : (namedTie Tryd.prog Rows.fnAddRow.named Rows.fnAddSpec.vars) = true := by kernel_rfl
theorem k5 : ((Rows.fnAddRow.stops == [])) = true := by kernel_rfl
theorem k6 : ((Tryd.prog.stops == [])) = true := Facts.k6
theorem k7 : ((Rows.fnAddRow.knobs == [])) = true := by kernel_rfl
theorem k8 : ((Tryd.prog.stopKnobs == [])) = true := Facts.k8
theorem k9 : ((Rows.fnAddRow.inPlace == Tryd.prog.inPlace 8)) = true := by kernel_rfl
theorem k10 : ((Rows.fnAddRow.unfollowed == Tryd.prog.unfollowed 8)) = true := by kernel_rfl
theorem k11 : ((Rows.fnAddRow.recurses == Tryd.prog.recurses 8)) = true := by kernel_rfl
theorem k12 : ((Rows.fnAddRow.named == Tryd.prog.varsNamed 8)) = true := by kernel_rfl
theorem k13 : ((Rows.fnAddRow.maps == (Tryd.f8.params.toList ++ Rows.fnAddSpec.plain.varTypes Tryd.prog).any (Tryd.prog.mapsRec ·))) = true := by kernel_rfl
theorem k14 : ((Rows.fnAddRow.ifaces == (Tryd.f8.params.toList ++ Rows.fnAddSpec.plain.varTypes Tryd.prog).any (Tryd.prog.ifacesRec ·))) = true := by kernel_rfl
theorem k15 : ((Rows.fnAddRow.mapsOut == Tryd.prog.mapsAmong Tryd.f8.resultTypes.toList)) = true := by kernel_rfl
theorem k16 : ((Rows.fnAddRow.loops == (Tryd.f8.params.toList ++ Rows.fnAddSpec.plain.varTypes Tryd.prog).any (Tryd.prog.loopsFrom ·))) = true := by kernel_rfl
theorem k17 : ((Rows.fnAddRow.wideKeys == (Tryd.f8.params.toList ++ Rows.fnAddSpec.plain.varTypes Tryd.prog ++ Tryd.f8.resultTypes.toList).any (Tryd.prog.wideKeysFrom ·))) = true := by kernel_rfl
theorem k18 : (Rows.fnAddSpec.vars.all (Tryd.prog.varReadable ·)) = true := by kernel_rfl
theorem k19 : (Tryd.f8.resultTypes.all (fun t => Tryd.prog.readableRec t && decide (t < Tryd.prog.types.size))) = true := by kernel_rfl
theorem k20 : ((Rows.fnAddRow.ifacesOut == Tryd.f8.resultTypes.toList.any (Tryd.prog.ifacesRec ·))) = true := by kernel_rfl
theorem k21 : ((Rows.fnAddRow.loopsOut == Tryd.f8.resultTypes.toList.any (Tryd.prog.loopsFrom ·))) = true := by kernel_rfl
theorem k22 : ((Rows.fnAddRow.plainKeys == Tryd.prog.plainKeys)) = true := Facts.k22
theorem k23 : (Rows.fnAddRow.shortTexts.isNone) = true := by kernel_rfl
theorem k24 : (Tryd.prog.stopsHeard) = true := Facts.k24
theorem k25 : (Tryd.prog.mayEnter) = true := Facts.k25
theorem k26 : ((Rows.fnAddRow.lifted == Tryd.prog.liftsFinal)) = true := Facts.k26
theorem k27 : ((Tryd.prog.make == some Rows.fnAddRow.make)) = true := Facts.k27
theorem k28 : ((Rows.fnAddRow.kinds == (if Rows.fnAddRow.domain.isEmpty then [] else Tryd.f8.params.toList.map fun t => match Tryd.prog.underlying t with | some (.int k) => some k | _ => none))) = true := by kernel_rfl
theorem k29 : ((Rows.fnAddRow.pinned == Rows.fnAddRow.pinnedBy)) = true := by kernel_rfl
theorem k30 : ((Rows.fnAddRow.veiled == (Tryd.f8.params.toList ++ Rows.fnAddSpec.plain.varTypes Tryd.prog ++ Tryd.f8.resultTypes.toList).any (Tryd.prog.veiledRec ·))) = true := by kernel_rfl
theorem k31 : (Rows.fnAddRow.veiledFits Tryd.prog Tryd.f8.params.toList (Tryd.f8.params.toList ++ Rows.fnAddSpec.plain.varTypes Tryd.prog ++ Tryd.f8.resultTypes.toList)) = true := by kernel_rfl
set_option maxRecDepth 100000 in
theorem joined : joinedFacts Tryd.prog 8 Tryd.f8 Rows.fnAddSpec Rows.fnAddRow = true := Facts.joined_of k0 k1 k2 k3 k4 k5 k6 k7 k8 k9 k10 k11 k12 k13 k14 k15 k16 k17 k18 k19 k20 k21 k22 k23 k24 k25 k26 k27 k28 k29 k30 k31
theorem named : Tryd.prog.funcNamed "goldap/laws.FnAdd" = some 8 := by kernel_rfl
theorem inst : Tryd.f8.isInstance Tryd.prog Rows.fnAddRow.origin Rows.fnAddRow.targs := of_decide_eq_true (by kernel_rfl)
theorem wrap : Tryd.f8.isWrapper Tryd.prog Rows.fnAddRow.wrapper Rows.fnAddRow.mainSum := by unfold Func.isWrapper; first | (rw [if_pos (by decide +kernel)]; kernel_rfl) | (rw [if_neg (by decide +kernel)]; exact ⟨rfl, rfl⟩)
theorem over : Rows.FnAddSaid :=
  OpenClaim.holds_of_wide 8 Tryd.f8 rfl rfl rfl rfl rfl rfl rfl ⟨rfl, rfl, rfl, rfl, rfl⟩ rfl rfl rfl rfl rfl named Tryd.func8 joined inst wrap
    (fun os started H enc _ => RowFnAdd.lifted os started H enc)
theorem plainArgs : (Tryd.f8.params.toList.all fun t => !(Tryd.prog.wantsStandIn t)) = true := by kernel_rfl
end Go.Proofs.YtbmcpjkhnhbjdaaDoor.OverFnAdd
namespace Go.Proofs.YtbmcpjkhnhbjdaaDoor
theorem fnAdd_card : Rows.FnAddCardSaid :=
  Claim7.holds_tied_plain_at .later [] [.sentinel] true (true, "02e7ab89ffa108ae3204427b224f76f33429535afac2a54c8e9935a69e6f7323") true
    OverFnAdd.over (fun _ h => by cases h) (by kernel_rfl) (fun _ h => by cases h) fnAdd_row_tie rfl ⟨rfl, rfl⟩ (by kernel_rfl) rfl
    (fun f fn hf hfn => by
      obtain rfl : f = 8 := Option.some.inj (OverFnAdd.named.symm.trans hf) |>.symm
      obtain rfl : fn = Tryd.f8 := (Option.some.inj (Tryd.func8.symm.trans hfn)).symm
      exact ⟨by kernel_rfl, fun j t ht => by
        have hm : t ∈ Tryd.f8.params.toList := by
          rw [← Array.getElem?_toList] at ht
          exact List.mem_of_getElem? ht
        have := List.all_eq_true.1 OverFnAdd.plainArgs t hm
        show Tryd.prog.wantsStandIn t = false
        simpa using this⟩)
    (by kernel_rfl)
#print axioms fnAdd_card
end Go.Proofs.YtbmcpjkhnhbjdaaDoor
