/- impl.Modify: the request to modify an entry. · spec.Modify: the packet of a request to modify. · laws.FnModify answers true at every name and every row of changes. · What arguments of the types []impl.Attribute and []impl.Change read as. · The contract of the row of laws.FnModify: whatever arguments, the law answers true, they read as before. No condition but the row's own: what it lists reads as the program's text lays it. · Closed facts on the program, each for itself, that every row of this seat wants. · The row of laws.FnModify out of its lifted contract, and the tied card out of the row. No condition but the row's own: what it lists reads as the program's text lays it. -/
import Derived.Test.YtbmcpjkhnhbjdaaDoorFnModAttr
import Derived.Deep.RegionLaw
import Derived.Deep.DrawnRows
import Derived.Deep.RegionHeld3
import Derived.Test.YtbmcpjkhnhbjdaaDoorOpen
import Derived.Test.YtbmcpjkhnhbjdaaDoorPFnEncodex0
import Derived.Test.YtbmcpjkhnhbjdaaDoorRows
import Derived.WalkKit
import Derived.ProofKit
import Derived.OpenShut
import Derived.ShutString
import Derived.ChangeOld
import Derived.Below
import Derived.SizedLaws
import Derived.Lay
import Derived.LaidMore
import Derived.JoinedOf
import Derived.Test.YtbmcpjkhnhbjdaaDoorCards
import Derived.Test.YtbmcpjkhnhbjdaaDoorTie
import Derived.SevenTiedAt
namespace Go.Proofs.YtbmcpjkhnhbjdaaDoor.Ber
open Go.RowKit Go.Proofs.YtbmcpjkhnhbjdaaDoorW.PrintWords Go.Proofs.YtbmcpjkhnhbjdaaDoor.PFnEncode Go.Proofs.YtbmcpjkhnhbjdaaDoorW.PrintLast Go.Proofs.YtbmcpjkhnhbjdaaDoor.Tree Go.Proofs.YtbmcpjkhnhbjdaaDoor.Buf Go.Proofs.YtbmcpjkhnhbjdaaDoor.Pk Go.Proofs.YtbmcpjkhnhbjdaaDoor.Within Go.Proofs.YtbmcpjkhnhbjdaaDoor.Num
set_option linter.unusedVariables false
set_option linter.unusedSimpArgs false

/-- the request that is built: its changes so far -/
structure ModInv (r : Nat) (dn : ByteArray) (W : World) (v : Value) (l : List (Int × S58)) : Prop where
  hr : W.heap[r]? = some (.cells #[.string dn, v, .slice none 0 0] 108 (0, 0))
  row : Kd.N kCh 114 W (r + 1) (fun k => r < k) v l
theorem ModInv.below {r : Nat} {dn : ByteArray} {W W' : World} {v : Value} {l : List (Int × S58)} (h : ModInv r dn W v l) (hb : Below W.heap.size W W') : ModInv r dn W' v l := ⟨blk_below h.hr hb, Kd.N_below h.row hb⟩
theorem ModInv.ne {r : Nat} {dn : ByteArray} {W : World} {v : Value} {l : List (Int × S58)} (h : ModInv r dn W v l) : some r ≠ v.ownBlock := Kd.N_away h.row (fun k hk => Nat.ne_of_gt hk)
theorem ModInv.lt {r : Nat} {dn : ByteArray} {W : World} {v : Value} {l : List (Int × S58)} (h : ModInv r dn W v l) : r < W.heap.size := blk_lt h.hr
theorem ModInv.fresh {r : Nat} {dn : ByteArray} {W : World} {v : Value} {l : List (Int × S58)} (h : ModInv r dn W v l) : ∀ k, W.heap.size ≤ k → r < k := fun k hk => Nat.lt_of_lt_of_le h.lt hk
theorem ModInv.app {r : Nat} {dn : ByteArray} {W w1 : World} {v v1 : Value} {l : List (Int × S58)} {x : Int × S58} (h : ModInv r dn W v l) (hR : Kd.N kCh 114 w1 (r + 1) (fun k => r < k) v1 (l ++ [x])) (hg : W.grownBy w1 v.ownBlock) : ModInv r dn (w1.setCell ⟨r, 1, none⟩ v1) v1 (l ++ [x]) :=
  ⟨blk_set (blk_grown h.hr hg h.ne) 1 v1, Kd.N_far hR (p := ⟨r, 1, none⟩) (fun k hk => Nat.ne_of_gt hk) v1⟩
theorem info_ch : (Tryd.prog.info? 114).map (fun i => (i.zero, i.size, i.bytes)) = some (some (.agg #[.int .u64 0, .string ⟨#[]⟩, .slice none 0 0]), 3, 48) := by kernel_rfl
theorem kCh_mkF (W : World) (ok : Nat → Prop) (op : Int) (x : S58) {A : Option Addr} {c : Nat} (hc : x.f1.length ≤ c) (hF : Kd.F Kd.string W ok A x.f1.length x.f1) : Kd.FK kCh W ok (op, x) [.int .u64 op, .string x.f0, .slice A x.f1.length c] :=
  fun W2 hW => ⟨[.int .u64 op], [.string x.f0, .slice A x.f1.length c], rfl, rfl, k58_mk W2 x hc (hF W2 hW)⟩

/-- the request to modify as data -/
def dAt (a : S58) : S27 := ⟨0, 16, true, [], [⟨0, 4, false, bytesOf a.f0, []⟩, ⟨0, 17, true, [], a.f1.map fun s => ⟨0, 4, false, bytesOf s, []⟩⟩]⟩
def dCh (a : Int × S58) : S27 := ⟨0, 16, true, [], [⟨0, 10, false, whole a.1, []⟩, dAt a.2]⟩
def dMod (dn : ByteArray) (l : List (Int × S58)) : S27 := ⟨1, 6, true, [], [⟨0, 4, false, bytesOf dn, []⟩, ⟨0, 16, true, [], l.map dCh⟩]⟩
theorem tr_Mod (dn : ByteArray) (l : List (Int × S58)) : trOf (pModify dn l) = dMod dn l := by
  have h := tr_fold 0 32 16 .nilIface ⟨#[67, 104, 97, 110, 103, 101, 115]⟩ fCh l rfl
  have h2 : (l.map fun a => trOf (fCh a)) = l.map dCh := List.map_congr_left (fun a _ => by rw [fCh, tr_change]; rfl)
  rw [h2] at h
  unfold pModify dMod
  generalize foldK (bare 0 32 16 .nilIface ⟨#[67, 104, 97, 110, 103, 101, 115]⟩) fCh l = x at h ⊢
  unfold addK bare prim
  simp [trOf, trL, h]
theorem Mod_ta (r : Nat) : ∀ w : World, (Instr.typeAssert (.iface 103 (.pointer (some ⟨r, 0, none⟩))) 20 200 true).run Tryd.prog w = .ok (.tuple #[.iface 103 (.pointer (some ⟨r, 0, none⟩)), .bool true]) w := fun _ => by kernel_rfl
theorem Mod_m (r : Nat) : ∀ w : World, (method 366 103 (.pointer (some ⟨r, 0, none⟩)) "goldap/pub/goldap.appendTo").run Tryd.prog w = .ok (140, (.pointer (some ⟨r, 0, none⟩))) w := fun _ => by kernel_rfl
theorem Mod_cf : ∀ (args : Array Value) (w : World), (callFunc 140 args).run Tryd.prog w = .ok (.enter 140 args) w := fun _ _ => by kernel_rfl
/-- the built request, handed to 'operation' -/
theorem op_mod {r : Nat} {dn : ByteArray} {W : World} {v : Value} {l : List (Int × S58)} (h : ModInv r dn W v l) (hdn : dn.size ≤ 1000000) (hl : ∀ a, a ∈ l → okC a) (hnl : l.length ≤ 20) :
    Calls Tryd.prog 43 #[.iface 103 (.pointer (some ⟨r, 0, none⟩))] W (OpRes W (dMod dn l)) := by
  obtain ⟨A, c, rfl, hc, hC⟩ := Kd.N_reads h.row
  have hlt := blk_lt h.hr
  have HO := operation_any 103 140 (.pointer (some ⟨r, 0, none⟩)) (pModify dn l) W (Mod_ta _) (Mod_m _) Mod_cf
    (fun W1 hW q E n W2 hE tE hn hb => appendTo_Modify dn l hdn hl hnl A c r W1.heap.size q n E W2 hE tE hn (blk_below (blk_below h.hr hW) hb) (Nat.lt_of_lt_of_le hlt hW.size) (Kd.C_below (Kd.C_below hC hW) hb))
    ((pModify_fine dn l hdn hl hnl).ok (by decide))
  rw [tr_Mod] at HO
  exact HO

/-- a change as the package's -/
def chOf (a : S51) : Int × S58 := (a.f0, attrOf a.f1)
set_option maxHeartbeats 3200000 in
set_option maxRecDepth 100000 in
theorem iMod_any (dn : ByteArray) (l : List S51) (A : Option Addr) (c : Nat) (w : World) (hC : Kd.C k51 w A l.length l) (hdn : dn.size ≤ 1000000) (hl : ∀ a, a ∈ l → okC (chOf a)) (hnl : l.length ≤ 20) :
    Calls Tryd.prog 23 #[.string dn, .slice A l.length c] w (OpRes w (dMod dn (l.map chOf))) := by
  have HC := Lib.hid hC
  have HL := Lib.hid hl
  have HOP : Hid (∀ (W : World) (v : Value), ModInv (w.heap.size + 1) dn W v (l.map chOf) → Calls Tryd.prog 43 #[.iface 103 (.pointer (some ⟨w.heap.size + 1, 0, none⟩))] W (OpRes W (dMod dn (l.map chOf)))) :=
    Lib.hid (fun W v h => op_mod h hdn (fun a ha => by obtain ⟨b, hb, rfl⟩ := List.mem_map.1 ha; exact hl b hb) (by rw [List.length_map]; exact hnl))
  have HT : Hid (∀ (s : S51) (A1 : Option Addr) (c1 : Nat) (W : World), s ∈ l → s.f1.f1.length ≤ c1 → Kd.C (Kd.slice 5 (Kd.int .u8)) W A1 s.f1.f1.length s.f1.f1 → Calls Tryd.prog 58 #[.slice A1 s.f1.f1.length c1] W fun e w' => ∃ v0_ : Value, e = .returned (v0_) ∧ Kd.R Kd.string 9 w' W.heap.size (fun _ => True) v0_ (s.f1.f1.map strOfNums) ∧ Below W.heap.size W w') :=
    Lib.hid (fun s A1 c1 W hs hc1 h => impl_texts.calls _ A1 c1 s.f1.f1 _ W h hc1 (texts_f s.f1.f1 (by
      have h1 := (hl s hs).2.2.2
      have : (chOf s).2.f1.length = s.f1.f1.length := by simp [chOf, attrOf]
      omega)))
  obtain ⟨y, hy⟩ : ∃ y, y = dMod dn (l.map chOf) := ⟨_, rfl⟩
  rw [← hy] at HOP ⊢
  obtain ⟨W0, hW0⟩ : ∃ W0, W0 = (w.alloc (.cells #[.int .i64 0, .int .i64 0, .bool false, .slice none 0 0, .slice none 0 0] 27)).alloc (.cells #[.string dn, .slice none 0 0, .slice none 0 0] 108) := ⟨_, rfl⟩
  have hb0 : Below w.heap.size w W0 := by rw [hW0]; exact below_alloc (below_alloc (Below.refl _ _) _) _
  have hs0 : W0.heap.size = w.heap.size + 2 := by rw [hW0]; simp
  have hz0 : W0.heap[w.heap.size]? = some (.cells #[.int .i64 0, .int .i64 0, .bool false, .slice none 0 0, .slice none 0 0] 27 (0, 0)) := by rw [hW0]; exact blk_alloc (blk_new _ _) _
  have hr0 : W0.heap[w.heap.size + 1]? = some (.cells #[.string dn, .slice none 0 0, .slice none 0 0] 108 (0, 0)) := by
    have := blk_new (w.alloc (.cells #[.int .i64 0, .int .i64 0, .bool false, .slice none 0 0, .slice none 0 0] 27)) (.cells #[.string dn, .slice none 0 0, .slice none 0 0] 108)
    have e : (w.alloc (.cells #[.int .i64 0, .int .i64 0, .bool false, .slice none 0 0, .slice none 0 0] 27)).heap.size = w.heap.size + 1 := by simp
    rw [e, ← hW0] at this
    exact this
  have HI0 : Hid (ModInv (w.heap.size + 1) dn W0 (.slice none 0 0) []) := Lib.hid ⟨hr0, Kd.N_nil _ _ _ _ _⟩
  have HB0 := Lib.hid hb0
  have HS0 := Lib.hid hs0
  have HZ0 := Lib.hid hz0
  have HW0 := Lib.hid hW0
  clear hy hb0 hs0 hz0 hr0 hW0 hdn hl hC
  go_enter Tryd.func23, Tryd.ntmps23
  go_wp2_with (go_at_call 57; go_in)
  rw [← HW0.out]
  go_loopw [13] (fun i wr => ∃ k : Nat, i = .int .i64 k ∧ k ≤ l.length ∧ Hid (∃ v, ModInv (w.heap.size + 1) dn wr v ((l.take k).map chOf)) ∧ Hid (Below (w.heap.size + 1) W0 wr)) (fun i _ => l.length - (intOf i).toNat)
  case atStart => exact ⟨0, rfl, Nat.zero_le _, Lib.hid ⟨_, HI0.out⟩, Lib.hid (Below.refl _ _)⟩
  case round =>
    obtain ⟨k, rfl, hk, HI1, HBr⟩ := hrel
    obtain ⟨v, HI2⟩ := HI1.out
    have HI := Lib.hid HI2
    clear HI1 HI2
    have HBW : Hid (Below w.heap.size w wr) := Lib.hid (HB0.out.trans (HBr.out.mono (Nat.le_succ _)))
    by_cases hlt : k < l.length
    · obtain ⟨ad, A1, c1, rfl, e0, e1, e2, l1, g1⟩ := at_T51 HC.out (k : Int) (by omega) (by omega)
      have hrd : rd_T51 l (k : Int) = l[k] := by
        rw [rd_T51, Int.toNat_natCast, List.getD_eq_getElem?_getD, List.getElem?_eq_getElem hlt]
        rfl
      rw [hrd] at e0 e1 e2 l1 g1
      rw [Int.toNat_natCast] at e0 e1 e2
      replace e0 := (HBW.out.cell (World.block_lt_of_cell? w _ e0)).trans e0
      replace e1 := (HBW.out.cell (World.block_lt_of_cell? w _ e1)).trans e1
      replace e2 := (HBW.out.cell (World.block_lt_of_cell? w _ e2)).trans e2
      have HST : Hid ((l.take k).map chOf ++ [chOf l[k]] = (l.take (k + 1)).map chOf) := Lib.hid (by rw [List.take_succ_eq_append_getElem hlt, List.map_append]; rfl)
      have HLE : Hid ((((l.take k).map chOf).length + 1) * 48 ≤ 140737488355328) := Lib.hid (by rw [List.length_map, List.length_take]; omega)
      have HTX := Lib.hid (fun W => HT.out l[k] A1 c1 W (List.getElem_mem hlt) l1)
      have hop := (HL.out l[k] (List.getElem_mem hlt)).1
      obtain ⟨s, hs⟩ : ∃ s, s = l[k] := ⟨_, rfl⟩
      obtain ⟨vs, hvs⟩ : ∃ vs, vs = s.f1.f1.map strOfNums := ⟨_, rfl⟩
      obtain ⟨acc, hacc⟩ : ∃ acc, acc = (l.take k).map chOf := ⟨_, rfl⟩
      rw [← hs] at e0 e1 e2 HST HTX g1 l1 hop
      rw [← hvs] at HTX
      have hat : chOf s = (s.f0, ⟨s.f1.f0, vs⟩) := by rw [hvs]; rfl
      rw [hat] at HST hop
      rw [← hacc] at HST HLE HI
      have HG1 := Lib.hid (Kd.C_below g1 HBW.out)
      have w1_ : IntKind.u64.wrap s.f0 = s.f0 := IntWalk.u64_in _ (by have := hop.1; have := hop.2; simp only at *; omega)
      obtain ⟨x, hx⟩ : ∃ x : Int × S58, x = (s.f0, ⟨s.f1.f0, vs⟩) := ⟨_, rfl⟩
      rw [← hx] at HST
      have HXX := Lib.hid hx
      clear hrd hs hacc g1 l1 hvs hat hop hx
      go_wp2_with fail
      obtain ⟨W5, hW5⟩ : ∃ W5, W5 = wr.alloc (.cells #[.int .i64 s.f0, .string s.f1.f0, .slice A1 s.f1.f1.length c1] 51) := ⟨_, rfl⟩
      rw [← hW5]
      have hb5 : Below wr.heap.size wr W5 := by rw [hW5]; exact below_alloc (Below.refl _ _) _
      have hx5 : W5.heap[wr.heap.size]? = some (.cells #[.int .i64 s.f0, .string s.f1.f0, .slice A1 s.f1.f1.length c1] 51 (0, 0)) := by rw [hW5]; exact blk_new _ _
      have hd5 : Below W5.heap.size W5 W5.drew := (Below.refl _ _).drew
      have hbd := hb5.trans (hd5.mono hb5.size)
      have HX5 := Lib.hid (blk_below hx5 hd5)
      have HI5 := Lib.hid (HI.out.below hbd)
      have HB5 : Hid (Below (w.heap.size + 1) W0 W5.drew) := Lib.hid (HBr.out.trans (hbd.mono (by have := HBr.out.size; have := HS0.out; omega)))
      have HTC := Lib.hid (HTX.out W5.drew (Kd.C_below HG1.out hbd))
      have s0 : W5.drew.cell? ⟨wr.heap.size, 0, none⟩ = some (.int .i64 s.f0) := blk_cell HX5.out 0
      have s1 : W5.drew.cell? ⟨wr.heap.size, 1, none⟩ = some (.string s.f1.f0) := blk_cell HX5.out 1
      have s2 : W5.drew.cell? ⟨wr.heap.size, 2, none⟩ = some (.slice A1 s.f1.f1.length c1) := blk_cell HX5.out 2
      have s4 : W5.drew.cell? ⟨w.heap.size + 1, 1, none⟩ = some v := blk_cell HI5.out.hr 1
      have HNV : Hid (some wr.heap.size ≠ v.ownBlock) := Lib.hid (fun e => by have := Kd.N_lt HI.out.row _ e.symm; omega)
      have HNE : Hid (w.heap.size + 1 ≠ wr.heap.size) := Lib.hid (by have := HI.out.lt; omega)
      clear hW5 hb5 hx5 hd5 hbd
      refine start_ (n := 22) (S := fun w' => w'.cell? ⟨wr.heap.size, 0, none⟩ = some (.int .i64 s.f0) ∧ w'.cell? ⟨wr.heap.size, 1, none⟩ = some (.string s.f1.f0) ∧ w'.cell? ⟨wr.heap.size, 2, none⟩ = some (.slice A1 s.f1.f1.length c1) ∧ w'.cell? ⟨w.heap.size + 1, 1, none⟩ = some v) (ds := [21]) #[false, false, false, false, false, false, false, false, false, false, false, false, false, false, false, false, false, false, false, false, false, false] (by kernel_rfl) rfl rfl ⟨s0, s1, s2, s4⟩ (fun hHeld => ?_)
      refine pure_ (i := 0) (N := some 17) (v := ?_) (a' := ?_) #[true, false, false, false, false, false, false, false, false, false, false, false, false, false, false, false, false, false, false, false, false, false] rfl rfl (by kernel_rfl) (fun _ _ _ h => h) (Or.inl ⟨by rfl, ?_⟩) ?_ ?_
      rotate_left
      · intro w'
        go_simp
        with_reducible rfl
      rotate_left
      · simp only [Act.put, List.setIfInBounds_toArray, List.set_cons_zero, List.set_cons_succ, i64_w, i32_w]
        rfl
      refine pure_ (i := 1) (N := some 18) (v := ?_) (a' := ?_) #[true, true, false, false, false, false, false, false, false, false, false, false, false, false, false, false, false, false, false, false, false, false] rfl rfl (by kernel_rfl) (fun _ _ _ h => h) (Or.inl ⟨by rfl, ?_⟩) ?_ ?_
      rotate_left
      · intro w'
        go_simp
        with_reducible rfl
      rotate_left
      · simp only [Act.put, List.setIfInBounds_toArray, List.set_cons_zero, List.set_cons_succ, i64_w, i32_w]
        rfl
      refine pure_ (i := 2) (N := some 19) (v := ?_) (a' := ?_) #[true, true, true, false, false, false, false, false, false, false, false, false, false, false, false, false, false, false, false, false, false, false] rfl rfl (by kernel_rfl) (fun _ _ _ h => h) (Or.inl ⟨by rfl, ?_⟩) ?_ ?_
      rotate_left
      · intro w'
        go_simp
        with_reducible rfl
      rotate_left
      · simp only [Act.put, List.setIfInBounds_toArray, List.set_cons_zero, List.set_cons_succ, i64_w, i32_w]
        rfl
      refine pure_ (i := 3) (N := some 20) (v := ?_) (a' := ?_) #[true, true, true, true, false, false, false, false, false, false, false, false, false, false, false, false, false, false, false, false, false, false] rfl rfl (by kernel_rfl) (fun _ _ _ h => h) (Or.inl ⟨by rfl, ?_⟩) ?_ ?_
      rotate_left
      · intro w'
        go_simp
        with_reducible rfl
      rotate_left
      · simp only [Act.put, List.setIfInBounds_toArray, List.set_cons_zero, List.set_cons_succ, i64_w, i32_w]
        rfl
      refine pure_ (i := 5) (N := some 22) (v := ?_) (a' := ?_) #[true, true, true, true, false, true, false, false, false, false, false, false, false, false, false, false, false, false, false, false, false, false] rfl rfl (by kernel_rfl) (fun _ _ _ h => h) (Or.inl ⟨by rfl, ?_⟩) ?_ ?_
      rotate_left
      · intro w'
        go_simp
        with_reducible rfl
      rotate_left
      · simp only [Act.put, List.setIfInBounds_toArray, List.set_cons_zero, List.set_cons_succ, i64_w, i32_w]
        rfl
      refine pure_ (i := 8) (N := some 25) (v := ?_) (a' := ?_) #[true, true, true, true, false, true, false, false, true, false, false, false, false, false, false, false, false, false, false, false, false, false] rfl rfl (by kernel_rfl) (fun _ _ _ h => h) (Or.inl ⟨by rfl, ?_⟩) ?_ ?_
      rotate_left
      · intro w'
        go_simp
        with_reducible rfl
      rotate_left
      · simp only [Act.put, List.setIfInBounds_toArray, List.set_cons_zero, List.set_cons_succ, i64_w, i32_w]
        rfl
      refine pure_ (i := 9) (N := some 26) (v := ?_) (a' := ?_) #[true, true, true, true, false, true, false, false, true, true, false, false, false, false, false, false, false, false, false, false, false, false] rfl rfl (by kernel_rfl) (fun _ _ _ h => h) (Or.inl ⟨by rfl, ?_⟩) ?_ ?_
      rotate_left
      · intro w'
        go_simp
        with_reducible rfl
      rotate_left
      · simp only [Act.put, List.setIfInBounds_toArray, List.set_cons_zero, List.set_cons_succ, i64_w, i32_w]
        rfl
      refine pure_ (i := 11) (N := some 28) (v := ?_) (a' := ?_) #[true, true, true, true, false, true, false, false, true, true, false, true, false, false, false, false, false, false, false, false, false, false] rfl rfl (by kernel_rfl) (fun _ _ _ h => h) (Or.inl ⟨by rfl, ?_⟩) ?_ ?_
      rotate_left
      · intro w'
        go_simp
        with_reducible rfl
      rotate_left
      · simp only [Act.put, List.setIfInBounds_toArray, List.set_cons_zero, List.set_cons_succ, i64_w, i32_w]
        rfl
      refine pure_ (i := 12) (N := some 29) (v := ?_) (a' := ?_) #[true, true, true, true, false, true, false, false, true, true, false, true, true, false, false, false, false, false, false, false, false, false] rfl rfl (by kernel_rfl) (fun _ _ _ h => h) (Or.inl ⟨by rfl, ?_⟩) ?_ ?_
      rotate_left
      · intro w'
        go_simp
        with_reducible rfl
      rotate_left
      · simp only [Act.put, List.setIfInBounds_toArray, List.set_cons_zero, List.set_cons_succ, i64_w, i32_w]
        rfl
      refine take_ (i := 4) (N := some 21) (v := ?_) (a' := ?_) #[true, true, true, true, true, true, false, false, true, true, false, true, true, false, false, false, false, false, false, false, false, false] rfl rfl (by kernel_rfl) (fun _ _ _ h => h) (Or.inl ⟨by rfl, ?_⟩) hHeld ?_ ?_
      rotate_left
      · rintro w' ⟨s0, s1, s2, s3⟩
        go_simp
        with_reducible rfl
      rotate_left
      · simp only [Act.put, List.setIfInBounds_toArray, List.set_cons_zero, List.set_cons_succ, i64_w, i32_w]
        rfl
      refine take_ (i := 6) (N := some 23) (v := ?_) (a' := ?_) #[true, true, true, true, true, true, true, false, true, true, false, true, true, false, false, false, false, false, false, false, false, false] rfl rfl (by kernel_rfl) (fun _ _ _ h => h) (Or.inl ⟨by rfl, ?_⟩) hHeld ?_ ?_
      rotate_left
      · rintro w' ⟨s0, s1, s2, s3⟩
        go_simp
        with_reducible rfl
      rotate_left
      · simp only [Act.put, List.setIfInBounds_toArray, List.set_cons_zero, List.set_cons_succ, i64_w, i32_w]
        rfl
      refine pure_ (i := 7) (N := some 24) (v := ?_) (a' := ?_) #[true, true, true, true, true, true, true, true, true, true, false, true, true, false, false, false, false, false, false, false, false, false] rfl rfl (by kernel_rfl) (fun _ _ _ h => h) (Or.inl ⟨by rfl, ?_⟩) ?_ ?_
      rotate_left
      · intro w'
        go_simp
        with_reducible rfl
      rotate_left
      · simp only [Act.put, List.setIfInBounds_toArray, List.set_cons_zero, List.set_cons_succ, i64_w, i32_w]
        rfl
      refine take_ (i := 10) (N := some 27) (v := ?_) (a' := ?_) #[true, true, true, true, true, true, true, true, true, true, true, true, true, false, false, false, false, false, false, false, false, false] rfl rfl (by kernel_rfl) (fun _ _ _ h => h) (Or.inl ⟨by rfl, ?_⟩) hHeld ?_ ?_
      rotate_left
      · rintro w' ⟨s0, s1, s2, s3⟩
        go_simp
        with_reducible rfl
      rotate_left
      · simp only [Act.put, List.setIfInBounds_toArray, List.set_cons_zero, List.set_cons_succ, i64_w, i32_w]
        rfl
      refine take_ (i := 13) (N := some 30) (v := ?_) (a' := ?_) #[true, true, true, true, true, true, true, true, true, true, true, true, true, true, false, false, false, false, false, false, false, false] rfl rfl (by kernel_rfl) (fun _ _ _ h => h) (Or.inl ⟨by rfl, ?_⟩) hHeld ?_ ?_
      rotate_left
      · rintro w' ⟨s0, s1, s2, s3⟩
        go_simp
        with_reducible rfl
      rotate_left
      · simp only [Act.put, List.setIfInBounds_toArray, List.set_cons_zero, List.set_cons_succ, i64_w, i32_w]
        rfl
      refine one_ (i := 14) (N := some 31) #[true, true, true, true, true, true, true, true, true, true, true, true, true, true, true, false, false, false, false, false, false, false] rfl rfl (by kernel_rfl) (by decide) (fun K hK => ?_)
      refine goes_ Tryd.func58 (by kernel_rfl) rfl #[.slice A1 s.f1.f1.length c1] (by rfl) rfl rfl (by simp only [List.map_toArray, List.map_cons, List.map_nil]; rfl) ?_
      with_reducible refine (HTC.out).mono ?_
      rintro e W6 ⟨v6, rfl, hR6, hB6⟩
      refine ⟨_, rfl, ?_⟩
      obtain ⟨A6, c6, rfl, l6, _⟩ := Kd.R_reads hR6
      have HX6 := Lib.hid (blk_below HX5.out hB6)
      have HK6 : Hid (Kd.FK kCh W6 (fun k => w.heap.size + 1 < k ∧ some k ≠ v.ownBlock) x [.int .u64 s.f0, .string s.f1.f0, .slice A6 vs.length c6]) := Lib.hid (by
        rw [HXX.out]
        refine kCh_mkF W6 _ s.f0 ⟨s.f1.f0, vs⟩ l6 (Kd.F_mono (Kd.R_F (Kd.R_bound hR6)) (fun k hk => ?_))
        have h1 := hk.2.1
        have h2 := HB5.out.size
        have h3 := HS0.out
        refine ⟨by omega, fun e => ?_⟩
        have := Kd.N_lt HI5.out.row k e.symm
        omega)
      have HI6 := Lib.hid (HI5.out.below hB6)
      have HB6 : Hid (Below (w.heap.size + 1) W0 W6) := Lib.hid (HB5.out.trans (hB6.mono (by have := HB5.out.size; have := HS0.out; omega)))
      clear hR6 hB6 l6
      refine hK.out _ _ ⟨blk_cell HX6.out 0, blk_cell HX6.out 1, blk_cell HX6.out 2, blk_cell HI6.out.hr 1⟩ (fun hHeld => ?_)
      clear hK K
      refine norm_ (a' := ?_) ?_ ?_
      rotate_left
      · show Act.put _ (some 31) _ = _
        simp only [Act.put, List.setIfInBounds_toArray, List.set_cons_zero, List.set_cons_succ, i64_w, i32_w]
        rfl
      refine pure_ (i := 15) (N := some 32) (v := ?_) (a' := ?_) #[true, true, true, true, true, true, true, true, true, true, true, true, true, true, true, true, false, false, false, false, false, false] rfl rfl (by kernel_rfl) (fun _ _ _ h => h) (Or.inl ⟨by rfl, ?_⟩) ?_ ?_
      rotate_left
      · intro w'
        go_simp
        with_reducible rfl
      rotate_left
      · simp only [Act.put, List.setIfInBounds_toArray, List.set_cons_zero, List.set_cons_succ, i64_w, i32_w]
        rfl
      refine pure_ (i := 16) (N := some 33) (v := ?_) (a' := ?_) #[true, true, true, true, true, true, true, true, true, true, true, true, true, true, true, true, true, false, false, false, false, false] rfl rfl (by kernel_rfl) (fun _ _ _ h => h) (Or.inl ⟨by rfl, ?_⟩) ?_ ?_
      rotate_left
      · intro w'
        go_simp
        with_reducible rfl
      rotate_left
      · simp only [Act.put, List.setIfInBounds_toArray, List.set_cons_zero, List.set_cons_succ, i64_w, i32_w]
        rfl
      refine one_ (i := 17) (N := some 34) #[true, true, true, true, true, true, true, true, true, true, true, true, true, true, true, true, true, true, false, false, false, false] rfl rfl (by kernel_rfl) (by decide) (fun K hK => ?_)
      refine value_ (w1 := ?_) (v := ?_) (by rfl) rfl ?_ ?_
      rotate_left 2
      · go_simp
        constructor
        · rfl
        · rfl
      refine hK.out _ _ ⟨blk_cell (blk_alloc HX6.out _) 0, blk_cell (blk_alloc HX6.out _) 1, blk_cell (blk_alloc HX6.out _) 2, blk_cell (blk_alloc HI6.out.hr _) 1⟩ (fun hHeld => ?_)
      clear hK K
      refine norm_ (a' := ?_) ?_ ?_
      rotate_left
      · show Act.put _ (some 34) _ = _
        simp only [Act.put, List.setIfInBounds_toArray, List.set_cons_zero, List.set_cons_succ, i64_w, i32_w]
        rfl
      refine one_ (i := 18) (N := some 35) #[true, true, true, true, true, true, true, true, true, true, true, true, true, true, true, true, true, true, true, false, false, false] rfl rfl (by kernel_rfl) (by decide) (fun K hK => ?_)
      refine Kd.N_append_step kCh (w0 := W6) (W := W6) (w.heap.size + 1 + 1) (by rfl) (.tmp 21) (.tmp 34) 105 114 (.agg #[.int .u64 0, .string ⟨#[]⟩, .slice none 0 0]) 48 (by rfl) Tryd.underlying105 info_ch rfl (show 0 < 3 by decide) (by decide) v acc x _ (fun k => w.heap.size + 1 < k) _ (by rfl) (by rfl) HK6.out (fun _ h => h) HI6.out.fresh HI6.out.row (Below.refl _ _) HI6.out.lt HLE.out ?_
      intro v1 w1 hR hb hg hat
      have x0 : w1.cell? ⟨w.heap.size + 1, 1, none⟩ = some v := blk_cell (blk_grown HI6.out.hr hg HI6.out.ne) 1
      have xf : w1.frozen? ⟨w.heap.size + 1, 1, none⟩ = false := blk_frozen (blk_grown HI6.out.hr hg HI6.out.ne) 1
      have HX8 := Lib.hid (blk_grown HX6.out hg HNV.out)
      obtain ⟨Aq, cq, hvq⟩ := Kd.N_slice hR
      have h8 := HI6.out.app hR hg
      have hb8 := HB6.out.trans ((hb.mono (Nat.le_succ (w.heap.size + 1))).setCell (p := ⟨w.heap.size + 1, 1, none⟩) (Nat.le_refl _) v1)
      obtain ⟨n, hn⟩ : ∃ n, n = (acc ++ [x]).length := ⟨_, rfl⟩
      rw [← hn] at hvq
      subst hvq
      have HI8 := Lib.hid h8
      have HB8 := Lib.hid hb8
      clear hR hb hg hat hn h8 hb8
      refine hK.out _ _ ⟨blk_cell HX8.out 0, blk_cell HX8.out 1, blk_cell HX8.out 2, x0⟩ (fun hHeld => ?_)
      clear hK K
      refine norm_ (a' := ?_) ?_ ?_
      rotate_left
      · show Act.put _ (some 35) _ = _
        simp only [Act.put, List.setIfInBounds_toArray, List.set_cons_zero, List.set_cons_succ, i64_w, i32_w]
        rfl
      refine pure_ (i := 19) (N := some 36) (v := ?_) (a' := ?_) #[true, true, true, true, true, true, true, true, true, true, true, true, true, true, true, true, true, true, true, true, false, false] rfl rfl (by kernel_rfl) (fun _ _ _ h => h) (Or.inl ⟨by rfl, ?_⟩) ?_ ?_
      rotate_left
      · intro w'
        go_simp
        with_reducible rfl
      rotate_left
      · simp only [Act.put, List.setIfInBounds_toArray, List.set_cons_zero, List.set_cons_succ, i64_w, i32_w]
        rfl
      refine pure_ (i := 20) (N := some 37) (v := ?_) (a' := ?_) #[true, true, true, true, true, true, true, true, true, true, true, true, true, true, true, true, true, true, true, true, true, false] rfl rfl (by kernel_rfl) (fun _ _ _ h => h) (Or.inl ⟨by rfl, ?_⟩) ?_ ?_
      rotate_left
      · intro w'
        go_simp
        with_reducible rfl
      rotate_left
      · simp only [Act.put, List.setIfInBounds_toArray, List.set_cons_zero, List.set_cons_succ, i64_w, i32_w]
        rfl
      refine last_ (i := 21) (N := none) #[true, true, true, true, true, true, true, true, true, true, true, true, true, true, true, true, true, true, true, true, true, true] rfl rfl (by kernel_rfl) (by decide) (fun K hK => ?_)
      refine skip_ (w1 := ?_) (by rfl) rfl ?_ ?_
      rotate_left
      · go_simp
        rfl
      refine hK.out _ _ ?_
      clear hK K
      refine done_ (by kernel_rfl) ?_
      all_goals (
        go_wp2
        go_roundw
        case rel =>
          first
          | exact ⟨k + 1, by first | rfl | go_num, hlt, Lib.hid ⟨_, by rw [← HST.out]; exact HI8.out⟩, HB8⟩
          | (refine ⟨_, _, _, _, _, _, _, _, _, _, _, _, _, ?_, rfl⟩
             exact ⟨k + 1, by first | rfl | go_num, hlt, Lib.hid ⟨_, by rw [← HST.out]; exact HI8.out⟩, HB8⟩)
          | (refine ⟨_, _, _, _, _, _, _, _, _, _, _, _, _, _, _, _, _, _, _, _, _, _, _, _, _, _, ?_, rfl⟩
             exact ⟨k + 1, by first | rfl | go_num, hlt, Lib.hid ⟨_, by rw [← HST.out]; exact HI8.out⟩, HB8⟩)
        case measure => simp [intOf]; omega)
    · obtain rfl : k = l.length := by omega
      rw [List.take_length] at HI
      have HZr := Lib.hid ((HBr.out.block w.heap.size (Nat.lt_succ_self _)).trans HZ0.out)
      have HLW : Hid (w.heap.size + 2 ≤ wr.heap.size) := Lib.hid (by have := HBr.out.size; have := HS0.out; omega)
      clear HT HC
      go_wp2_with (first
        | (go_at_call 43
           with_reducible refine (HOP.out wr v HI.out).mono ?_
           rintro e W1 ⟨A3, c3, A4, c4, rfl, l3, h3, l4, h4, hB1⟩
           have HZ1 := Lib.hid (blk_below HZr.out hB1)
           have HB1 := Lib.hid (HBW.out.trans (hB1.mono HBW.out.size))
           have HF := Lib.hid (And.intro l3 (And.intro h3 (And.intro l4 h4)))
           have k0 : W1.cell? ⟨w.heap.size, 0, none⟩ = some (.int .i64 0) := blk_cell HZ1.out 0
           have k1 : W1.cell? ⟨w.heap.size, 1, none⟩ = some (.int .i64 0) := blk_cell HZ1.out 1
           have k2 : W1.cell? ⟨w.heap.size, 2, none⟩ = some (.bool false) := blk_cell HZ1.out 2
           have k3 : W1.cell? ⟨w.heap.size, 3, none⟩ = some (.slice none 0 0) := blk_cell HZ1.out 3
           have k4 : W1.cell? ⟨w.heap.size, 4, none⟩ = some (.slice none 0 0) := blk_cell HZ1.out 4
           have kf0 := blk_frozen HZ1.out 0
           have kf1 := blk_frozen HZ1.out 1
           have kf2 := blk_frozen HZ1.out 2
           have kf3 := blk_frozen HZ1.out 3
           have kf4 := blk_frozen HZ1.out 4
           clear l3 h3 l4 h4 hB1))
      try simp only [Exit.inBlock, Exit.then]
      obtain ⟨h5, hend⟩ := req_end HB1.out (Nat.le_refl _) HBW.out.size (fun k hk => by have := HLW.out; omega) HZ1.out HF.out.1 HF.out.2.1 HF.out.2.2.1 HF.out.2.2.2 rfl
      exact bodyPost_ret (results_ct (p := 4) (u := 5) rfl _ _ _ _ _ _ _ rfl h5 Tryd.underlying27 rfl size_ip) rfl hend
end Go.Proofs.YtbmcpjkhnhbjdaaDoor.Ber

namespace Go.Proofs.YtbmcpjkhnhbjdaaDoor.Ber
open Go.RowKit Go.Proofs.YtbmcpjkhnhbjdaaDoorW.PrintWords Go.Proofs.YtbmcpjkhnhbjdaaDoor.PFnEncode Go.Proofs.YtbmcpjkhnhbjdaaDoorW.PrintLast Go.Proofs.YtbmcpjkhnhbjdaaDoor.Tree Go.Proofs.YtbmcpjkhnhbjdaaDoor.Buf Go.Proofs.YtbmcpjkhnhbjdaaDoor.Pk Go.Proofs.YtbmcpjkhnhbjdaaDoor.Within Go.Proofs.YtbmcpjkhnhbjdaaDoor.Num
set_option linter.unusedVariables false
set_option linter.unusedSimpArgs false
/-- a change's packet -/
def tCh (x : S60) : S33 := tL [tC x.f0, tAttr x.f1]
def okCh (x : S60) : Prop := (0 ≤ x.f0 ∧ x.f0 ≤ 9223372036854775807) ∧ okA x.f1
set_option maxHeartbeats 3200000 in
set_option maxRecDepth 100000 in
theorem sMod_nw (dn : ByteArray) (l : List S60) (A : Option Addr) (c : Nat) (w : World) (hC : Kd.C k60 w A l.length l) (hdn : dn.size ≤ 1000000) (hl : ∀ a, a ∈ l → okCh a) (hn : l.length ≤ 1000) :
    Calls Tryd.prog 24 #[.string dn, .slice A l.length c] w (Nw w.heap.size w (tOp 6 [tO dn, tL (l.map tCh)])) := by
  have HC := Lib.hid hC
  have HEL := Lib.hid hl
  have HO1 : Hid (∀ W, Calls Tryd.prog 47 #[.string dn] W (Nw W.heap.size W (tO dn))) := Lib.hid (fun W => octets_nw dn W (by omega))
  have HLI : Hid (∀ (A : Option Addr) (cc : Nat) (W : World), Kd.F k33 W (fun k => w.heap.size + 1 ≤ k) A [tO dn, tL (l.map tCh)].length [tO dn, tL (l.map tCh)] → 2 ≤ cc → w.heap.size + 1 ≤ W.heap.size → Calls Tryd.prog 46 #[.int .i64 6, .slice A 2 cc] W (Nw (w.heap.size + 1) W (tOp 6 [tO dn, tL (l.map tCh)]))) :=
    Lib.hid (fun A cc W h1 h2 h3 => operation_nw 6 [tO dn, tL (l.map tCh)] A cc W h1 h2 h3)
  obtain ⟨x1, hx1⟩ : ∃ x, x = tO dn := ⟨_, rfl⟩
  obtain ⟨x2, hx2⟩ : ∃ x, x = tL (l.map tCh) := ⟨_, rfl⟩
  obtain ⟨y, hy⟩ : ∃ y, y = tOp 6 [tO dn, tL (l.map tCh)] := ⟨_, rfl⟩
  rw [← hy] at HLI ⊢
  rw [← hx1] at HO1 HLI
  rw [← hx2] at HLI
  have HX2 := Lib.hid hx2
  obtain ⟨W0, hW0⟩ : ∃ W0, W0 = w.alloc (.cells #[.int .i64 0, .int .i64 0, .bool false, .slice none 0 0, .slice none 0 0] 33) := ⟨_, rfl⟩
  have hb0 : Below w.heap.size w W0 := by rw [hW0]; exact below_alloc (Below.refl _ _) _
  have hs0 : W0.heap.size = w.heap.size + 1 := by rw [hW0]; simp
  have HB0 := Lib.hid hb0
  have HS0 := Lib.hid hs0
  have HZ0 : Hid (W0.heap[w.heap.size]? = some (.cells #[.int .i64 0, .int .i64 0, .bool false, .slice none 0 0, .slice none 0 0] 33 (0, 0))) := Lib.hid (by rw [hW0]; exact blk_new _ _)
  have HW0 := Lib.hid hW0
  clear hx1 hx2 hy hC hdn hl hb0 hs0 hW0
  go_enter Tryd.func24, Tryd.ntmps24
  go_upto_region 2 with (first
    | (go_at_call 48
       rw [← HW0.out]
       with_reducible refine (list_ex none 0 0 W0).mono ?_
       rintro e W1 ⟨rfl, hB1⟩
       have HZ1 := Lib.hid (blk_below HZ0.out hB1)
       have HB1 := Lib.hid hB1
       clear hB1))
  obtain ⟨W2, hW2⟩ : ∃ W2, W2 = W1.alloc (.cells #[.int .i64 0, .int .i64 16, .bool true, .slice none 0 0, .slice none 0 0] 33) := ⟨_, rfl⟩
  rw [← hW2]
  have hb2 : Below W1.heap.size W1 W2 := by rw [hW2]; exact below_alloc (Below.refl _ _) _
  have HI2 : Hid (Acc W1.heap.size W2 0 16 true (.slice none 0 0) []) := Lib.hid (acc_new (by rw [hW2]; exact blk_new _ _))
  have HZ2 := Lib.hid (blk_below HZ1.out hb2)
  have HG : Hid (w.heap.size + 1 ≤ W1.heap.size) := Lib.hid (by have := HB1.out.size; have := HS0.out; omega)
  have HB2 : Hid (Below w.heap.size w W2) := Lib.hid ((HB0.out.trans (HB1.out.mono HB0.out.size)).trans (hb2.mono (by have := HG.out; omega)))
  clear hW2 hb2
  obtain ⟨g, hg⟩ : ∃ g, g = W1.heap.size := ⟨_, rfl⟩
  rw [← hg] at HI2 HG ⊢
  clear hg
  go_wp2
  go_loopw [11] (fun i wr => ∃ k : Nat, i = .int .i64 k ∧ k ≤ l.length ∧ Hid (∃ v, Acc g wr 0 16 true v ((l.take k).map tCh)) ∧ Hid (Below g W2 wr)) (fun i _ => l.length - (intOf i).toNat)
  case atStart => exact ⟨0, rfl, Nat.zero_le _, Lib.hid ⟨_, HI2.out⟩, Lib.hid (Below.refl _ _)⟩
  case round =>
    obtain ⟨k, rfl, hk, HI3, HBr⟩ := hrel
    obtain ⟨v, HI4⟩ := HI3.out
    have HI := Lib.hid HI4
    clear HI3 HI4
    have HBW : Hid (Below w.heap.size w wr) := Lib.hid (HB2.out.trans (HBr.out.mono (by have := HG.out; omega)))
    by_cases hlt : k < l.length
    · obtain ⟨ad, A1, c1, rfl, e0, e1, e2, l1, g1⟩ := at_T60 HC.out (k : Int) (by omega) (by omega)
      have hrd : rd_T60 l (k : Int) = l[k] := by
        rw [rd_T60, Int.toNat_natCast, List.getD_eq_getElem?_getD, List.getElem?_eq_getElem hlt]
        rfl
      rw [hrd] at e0 e1 e2 l1 g1
      rw [Int.toNat_natCast] at e0 e1 e2
      replace e0 := (HBW.out.cell (World.block_lt_of_cell? w _ e0)).trans e0
      replace e1 := (HBW.out.cell (World.block_lt_of_cell? w _ e1)).trans e1
      replace e2 := (HBW.out.cell (World.block_lt_of_cell? w _ e2)).trans e2
      have HST : Hid ((l.take k).map tCh ++ [tCh l[k]] = (l.take (k + 1)).map tCh) := Lib.hid (by rw [List.take_succ_eq_append_getElem hlt, List.map_append]; rfl)
      have HLE : Hid ((((l.take k).map tCh).length + 1) * 72 ≤ 140737488355328) := Lib.hid (by rw [List.length_map, List.length_take]; omega)
      have HOK := Lib.hid (HEL.out l[k] (List.getElem_mem hlt))
      obtain ⟨s, hs⟩ : ∃ s, s = l[k] := ⟨_, rfl⟩
      obtain ⟨acc, hacc⟩ : ∃ acc, acc = (l.take k).map tCh := ⟨_, rfl⟩
      rw [← hs] at e0 e1 e2 l1 g1 HST HOK
      rw [← hacc] at HST HLE HI
      have HG1 := Lib.hid (Kd.C_below g1 HBW.out)
      clear hrd hs hacc g1 l1
      have HCO : Hid (∀ W, Calls Tryd.prog 59 #[.int .i64 s.f0] W (Nw W.heap.size W (tC s.f0))) := Lib.hid (fun W => code_nw s.f0 (by have := HOK.out.1; omega) W)
      have HLS : Hid (∀ W, Kd.string.C W A1 s.f1.f1.length s.f1.f1 → Calls Tryd.prog 60 #[.agg #[.string s.f1.f0, .slice A1 s.f1.f1.length c1]] W (Nw W.heap.size W (tAttr s.f1))) := Lib.hid (fun W h => listed_nw s.f1 A1 c1 W h HOK.out.2.1 HOK.out.2.2.1 HOK.out.2.2.2)
      have HZL : Hid (∀ (b : Nat) (A : Option Addr) (cc : Nat) (W : World), Kd.F k33 W (fun k => b ≤ k) A [tC s.f0, tAttr s.f1].length [tC s.f0, tAttr s.f1] → 2 ≤ cc → b ≤ W.heap.size → Calls Tryd.prog 48 #[.slice A 2 cc] W (Nw b W (tCh s))) :=
        Lib.hid (fun b A cc W h1 h2 h3 => list_nw [tC s.f0, tAttr s.f1] A cc W h1 h2 h3)
      obtain ⟨p, hp⟩ : ∃ p, p = tCh s := ⟨_, rfl⟩
      obtain ⟨z1, hz1⟩ : ∃ z, z = tC s.f0 := ⟨_, rfl⟩
      obtain ⟨z2, hz2⟩ : ∃ z, z = tAttr s.f1 := ⟨_, rfl⟩
      rw [← hp] at HST HZL
      rw [← hz1] at HZL HCO
      rw [← hz2] at HZL HLS
      clear hp hz1 hz2
      go_wp2_with fail
      obtain ⟨W5, hW5⟩ : ∃ W5, W5 = wr.alloc (.cells #[.int .i64 s.f0, .string s.f1.f0, .slice A1 s.f1.f1.length c1] 60) := ⟨_, rfl⟩
      rw [← hW5]
      have hb5 : Below wr.heap.size wr W5 := by rw [hW5]; exact below_alloc (Below.refl _ _) _
      have hx5 : W5.heap[wr.heap.size]? = some (.cells #[.int .i64 s.f0, .string s.f1.f0, .slice A1 s.f1.f1.length c1] 60 (0, 0)) := by rw [hW5]; exact blk_new _ _
      have hd5 : Below W5.heap.size W5 W5.drew := (Below.refl _ _).drew
      have hbd := hb5.trans (hd5.mono hb5.size)
      have HX5 : Hid (W5.drew.heap[wr.heap.size]? = some (.cells #[.int .i64 s.f0, .string s.f1.f0, .slice A1 s.f1.f1.length c1] 60 (0, 0))) := Lib.hid (blk_below hx5 hd5)
      have HI5 := Lib.hid (HI.out.below hbd)
      have HB5 : Hid (Below g W2 W5.drew) := Lib.hid (HBr.out.trans (hbd.mono (Nat.le_of_lt HI.out.lt)))
      have s4 : W5.drew.cell? ⟨g, 4, none⟩ = some v := blk_cell HI5.out.hg 4
      have r0 : W5.drew.cell? ⟨wr.heap.size, 0, none⟩ = some (.int .i64 s.f0) := blk_cell HX5.out 0
      have r1 : W5.drew.cell? ⟨wr.heap.size, 1, none⟩ = some (.string s.f1.f0) := blk_cell HX5.out 1
      have r2 : W5.drew.cell? ⟨wr.heap.size, 2, none⟩ = some (.slice A1 s.f1.f1.length c1) := blk_cell HX5.out 2
      have HG5 := Lib.hid (Kd.C_below HG1.out hbd)
      clear hW5 hb5 hx5 hd5 hbd
      have HNV : Hid (some wr.heap.size ≠ v.ownBlock) := Lib.hid (fun e => by have := Kd.N_lt HI.out.row _ e.symm; omega)
      refine start_ (n := 14) (S := fun w' => w'.cell? ⟨g, 4, none⟩ = some v ∧ w'.cell? ⟨wr.heap.size, 0, none⟩ = some (.int .i64 s.f0) ∧ w'.cell? ⟨wr.heap.size, 1, none⟩ = some (.string s.f1.f0) ∧ w'.cell? ⟨wr.heap.size, 2, none⟩ = some (.slice A1 s.f1.f1.length c1)) (ds := [13]) #[false, false, false, false, false, false, false, false, false, false, false, false, false, false] (by kernel_rfl) rfl rfl ⟨s4, r0, r1, r2⟩ (fun hHeld => ?_)
      refine pure_ (i := 0) (N := some 15) (v := ?_) (a' := ?_) #[true, false, false, false, false, false, false, false, false, false, false, false, false, false] rfl rfl (by kernel_rfl) (fun _ _ _ h => h) (Or.inl ⟨by rfl, ?_⟩) ?_ ?_
      rotate_left
      · intro w'
        go_simp
        with_reducible rfl
      rotate_left
      · simp only [Act.put, List.setIfInBounds_toArray, List.set_cons_zero, List.set_cons_succ, i64_w, i32_w]
        rfl
      refine pure_ (i := 2) (N := some 17) (v := ?_) (a' := ?_) #[true, false, true, false, false, false, false, false, false, false, false, false, false, false] rfl rfl (by kernel_rfl) (fun _ _ _ h => h) (Or.inl ⟨by rfl, ?_⟩) ?_ ?_
      rotate_left
      · intro w'
        go_simp
        with_reducible rfl
      rotate_left
      · simp only [Act.put, List.setIfInBounds_toArray, List.set_cons_zero, List.set_cons_succ, i64_w, i32_w]
        rfl
      refine pure_ (i := 5) (N := some 20) (v := ?_) (a' := ?_) #[true, false, true, false, false, true, false, false, false, false, false, false, false, false] rfl rfl (by kernel_rfl) (fun _ _ _ h => h) (Or.inl ⟨by rfl, ?_⟩) ?_ ?_
      rotate_left
      · intro w'
        go_simp
        with_reducible rfl
      rotate_left
      · simp only [Act.put, List.setIfInBounds_toArray, List.set_cons_zero, List.set_cons_succ, i64_w, i32_w]
        rfl
      refine take_ (i := 1) (N := some 16) (v := ?_) (a' := ?_) #[true, true, true, false, false, true, false, false, false, false, false, false, false, false] rfl rfl (by kernel_rfl) (fun _ _ _ h => h) (Or.inl ⟨by rfl, ?_⟩) hHeld ?_ ?_
      rotate_left
      · rintro w' ⟨s0, s1, s2, s3⟩
        go_simp
        with_reducible rfl
      rotate_left
      · simp only [Act.put, List.setIfInBounds_toArray, List.set_cons_zero, List.set_cons_succ, i64_w, i32_w]
        rfl
      refine take_ (i := 3) (N := some 18) (v := ?_) (a' := ?_) #[true, true, true, true, false, true, false, false, false, false, false, false, false, false] rfl rfl (by kernel_rfl) (fun _ _ _ h => h) (Or.inl ⟨by rfl, ?_⟩) hHeld ?_ ?_
      rotate_left
      · rintro w' ⟨s0, s1, s2, s3⟩
        go_simp
        with_reducible rfl
      rotate_left
      · simp only [Act.put, List.setIfInBounds_toArray, List.set_cons_zero, List.set_cons_succ, i64_w, i32_w]
        rfl
      refine take_ (i := 6) (N := some 21) (v := ?_) (a' := ?_) #[true, true, true, true, false, true, true, false, false, false, false, false, false, false] rfl rfl (by kernel_rfl) (fun _ _ _ h => h) (Or.inl ⟨by rfl, ?_⟩) hHeld ?_ ?_
      rotate_left
      · rintro w' ⟨s0, s1, s2, s3⟩
        go_simp
        with_reducible rfl
      rotate_left
      · simp only [Act.put, List.setIfInBounds_toArray, List.set_cons_zero, List.set_cons_succ, i64_w, i32_w]
        rfl
      refine one_ (i := 4) (N := some 19) #[true, true, true, true, true, true, true, false, false, false, false, false, false, false] rfl rfl (by kernel_rfl) (by decide) (fun K hK => ?_)
      refine goes_ Tryd.func59 (by kernel_rfl) rfl #[.int .i64 s.f0] (by rfl) rfl rfl (by simp only [List.map_toArray, List.map_cons, List.map_nil]; rfl) ?_
      with_reducible refine (HCO.out W5.drew).mono ?_
      rintro e W6 h6
      obtain ⟨F3, f3, F4, f4, rfl, hl6, hB6⟩ := h6.open
      refine ⟨_, rfl, ?_⟩
      have HL6 := Lib.hid hl6
      have HG6 := Lib.hid (Kd.C_below HG5.out hB6)
      have HI6 := Lib.hid (HI5.out.below hB6)
      have HX6 := Lib.hid (blk_below HX5.out hB6)
      have HB6 := Lib.hid hB6
      clear h6 hl6 hB6
      refine hK.out _ _ ⟨blk_cell HI6.out.hg 4, blk_cell HX6.out 0, blk_cell HX6.out 1, blk_cell HX6.out 2⟩ (fun hHeld => ?_)
      clear hK K
      refine norm_ (a' := ?_) ?_ ?_
      rotate_left
      · show Act.put _ (some 19) _ = _
        simp only [Act.put, List.setIfInBounds_toArray, List.set_cons_zero, List.set_cons_succ, i64_w, i32_w]
        rfl
      refine one_ (i := 7) (N := some 22) #[true, true, true, true, true, true, true, true, false, false, false, false, false, false] rfl rfl (by kernel_rfl) (by decide) (fun K hK => ?_)
      refine goes_ Tryd.func60 (by kernel_rfl) rfl #[.agg #[.string s.f1.f0, .slice A1 s.f1.f1.length c1]] (by rfl) rfl rfl (by simp only [List.map_toArray, List.map_cons, List.map_nil]; rfl) ?_
      with_reducible refine (HLS.out W6 HG6.out).mono ?_
      rintro e W7 h7
      obtain ⟨D3, d3, D4, d4, rfl, hl7, hB7⟩ := h7.open
      refine ⟨_, rfl, ?_⟩
      have HL67 := Lib.hid (HL6.out.below hB7)
      have HL7 := Lib.hid (hl7.low HB6.out.size)
      have HI7 := Lib.hid (HI6.out.below hB7)
      have HX7 := Lib.hid (blk_below HX6.out hB7)
      have HB7 := Lib.hid (HB6.out.trans (hB7.mono HB6.out.size))
      clear h7 hl7 hB7
      refine hK.out _ _ ⟨blk_cell HI7.out.hg 4, blk_cell HX7.out 0, blk_cell HX7.out 1, blk_cell HX7.out 2⟩ (fun hHeld => ?_)
      clear hK K
      refine norm_ (a' := ?_) ?_ ?_
      rotate_left
      · show Act.put _ (some 22) _ = _
        simp only [Act.put, List.setIfInBounds_toArray, List.set_cons_zero, List.set_cons_succ, i64_w, i32_w]
        rfl
      refine one_ (i := 8) (N := some 23) #[true, true, true, true, true, true, true, true, true, false, false, false, false, false] rfl rfl (by kernel_rfl) (by decide) (fun K hK => ?_)
      refine value_ (w1 := ?_) (v := ?_) (by rfl) rfl ?_ ?_
      rotate_left 2
      · go_simp
        constructor
        · rfl
        · rfl
      refine hK.out _ _ ⟨blk_cell (blk_alloc HI7.out.hg _) 4, blk_cell (blk_alloc HX7.out _) 0, blk_cell (blk_alloc HX7.out _) 1, blk_cell (blk_alloc HX7.out _) 2⟩ (fun hHeld => ?_)
      clear hK K
      refine norm_ (a' := ?_) ?_ ?_
      rotate_left
      · show Act.put _ (some 23) _ = _
        simp only [Act.put, List.setIfInBounds_toArray, List.set_cons_zero, List.set_cons_succ, i64_w, i32_w]
        rfl
      refine one_ (i := 9) (N := some 24) #[true, true, true, true, true, true, true, true, true, true, false, false, false, false] rfl rfl (by kernel_rfl) (by decide) (fun K hK => ?_)
      refine goes_ Tryd.func48 (by kernel_rfl) rfl #[.slice (some ⟨W7.heap.size, 0, none⟩) 2 2] (by rfl) rfl rfl (by simp only [List.map_toArray, List.map_cons, List.map_nil]; rfl) ?_
      obtain ⟨V, hV⟩ : ∃ V, V = W7.alloc (.cells #[.int .i64 z1.f0, .int .i64 z1.f1, .bool z1.f2, .slice F3 z1.f3.length f3, .slice F4 z1.f4.length f4, .int .i64 z2.f0, .int .i64 z2.f1, .bool z2.f2, .slice D3 z2.f3.length d3, .slice D4 z2.f4.length d4] 33) := ⟨_, rfl⟩
      rw [← hV]
      have hbV : Below W7.heap.size W7 V := by rw [hV]; exact below_alloc (Below.refl _ _) _
      have hXV : V.heap[W7.heap.size]? = some (.cells #[.int .i64 z1.f0, .int .i64 z1.f1, .bool z1.f2, .slice F3 z1.f3.length f3, .slice F4 z1.f4.length f4, .int .i64 z2.f0, .int .i64 z2.f1, .bool z2.f2, .slice D3 z2.f3.length d3, .slice D4 z2.f4.length d4] 33 (0, 0)) := by rw [hV]; exact blk_new _ _
      have hF : Kd.F k33 V (fun k => W5.drew.heap.size ≤ k) (some ⟨W7.heap.size, 0, none⟩) [z1, z2].length [z1, z2] := F2 (x := z1) (y := z2) hXV HB7.out.size (HL67.out.below hbV) (HL7.out.below hbV)
      with_reducible refine (HZL.out W5.drew.heap.size (some ⟨W7.heap.size, 0, none⟩) 2 V hF (Nat.le_refl _) (Nat.le_trans HB7.out.size hbV.size)).mono ?_
      rintro e W8 h8
      obtain ⟨Y3, y3, Y4, y4, rfl, hl8, hB8⟩ := h8.open
      refine ⟨_, rfl, ?_⟩
      have hb78 := hbV.trans (hB8.mono hbV.size)
      have HI8 := Lib.hid (HI7.out.below hb78)
      have HX8 := Lib.hid (blk_below HX7.out hb78)
      have HK8 := Lib.hid (Acc.kid hl8 HI5.out (Nat.le_refl _))
      have HB8 := Lib.hid (HB5.out.trans ((HB7.out.trans (hb78.mono HB7.out.size)).mono (Nat.le_of_lt HI5.out.lt)))
      clear hV hbV hXV hF h8 hl8 hB8 hb78
      refine hK.out _ _ ⟨blk_cell HI8.out.hg 4, blk_cell HX8.out 0, blk_cell HX8.out 1, blk_cell HX8.out 2⟩ (fun hHeld => ?_)
      clear hK K
      refine norm_ (a' := ?_) ?_ ?_
      rotate_left
      · show Act.put _ (some 24) _ = _
        simp only [Act.put, List.setIfInBounds_toArray, List.set_cons_zero, List.set_cons_succ, i64_w, i32_w]
        rfl
      refine one_ (i := 10) (N := some 25) #[true, true, true, true, true, true, true, true, true, true, true, false, false, false] rfl rfl (by kernel_rfl) (by decide) (fun K hK => ?_)
      refine value_ (w1 := ?_) (v := ?_) (by rfl) rfl ?_ ?_
      rotate_left 2
      · go_simp
        constructor
        · rfl
        · rfl
      refine hK.out _ _ ⟨blk_cell (blk_alloc HI8.out.hg _) 4, blk_cell (blk_alloc HX8.out _) 0, blk_cell (blk_alloc HX8.out _) 1, blk_cell (blk_alloc HX8.out _) 2⟩ (fun hHeld => ?_)
      clear hK K
      refine norm_ (a' := ?_) ?_ ?_
      rotate_left
      · show Act.put _ (some 25) _ = _
        simp only [Act.put, List.setIfInBounds_toArray, List.set_cons_zero, List.set_cons_succ, i64_w, i32_w]
        rfl
      refine one_ (i := 11) (N := some 26) #[true, true, true, true, true, true, true, true, true, true, true, true, false, false] rfl rfl (by kernel_rfl) (by decide) (fun K hK => ?_)
      refine Kd.N_append_step k33 (w0 := W8) (W := W8) (g + 1) (by rfl) (.tmp 16) (.tmp 25) 31 33 (.agg #[.int .i64 0, .int .i64 0, .bool false, .slice none 0 0, .slice none 0 0]) 72 (by rfl) Tryd.underlying31 info_sp rfl (show 0 < 5 by decide) (by decide) v acc p _ (fun k => g < k) _ (by rfl) (by rfl) HK8.out (fun _ h => h) HI8.out.fresh HI8.out.row (Below.refl _ _) HI8.out.lt HLE.out ?_
      intro v1 w1 hR hb hg hat
      have x0 : w1.cell? ⟨g, 4, none⟩ = some v := blk_cell (blk_grown HI8.out.hg hg HI8.out.ne) 4
      have xf : w1.frozen? ⟨g, 4, none⟩ = false := blk_frozen (blk_grown HI8.out.hg hg HI8.out.ne) 4
      have HX9 := Lib.hid (blk_grown HX8.out hg HNV.out)
      obtain ⟨Aq, cq, hvq⟩ := Kd.N_slice hR
      have h8 := HI8.out.app hR hg
      have hb8 := HB8.out.trans ((hb.mono (Nat.le_succ g)).setCell (p := ⟨g, 4, none⟩) (Nat.le_refl _) v1)
      obtain ⟨n, hn⟩ : ∃ n, n = (acc ++ [p]).length := ⟨_, rfl⟩
      rw [← hn] at hvq
      subst hvq
      have HI9 := Lib.hid h8
      have HB9 := Lib.hid hb8
      clear hR hb hg hat hn h8 hb8
      refine hK.out _ _ ⟨x0, blk_cell HX9.out 0, blk_cell HX9.out 1, blk_cell HX9.out 2⟩ (fun hHeld => ?_)
      clear hK K
      refine norm_ (a' := ?_) ?_ ?_
      rotate_left
      · show Act.put _ (some 26) _ = _
        simp only [Act.put, List.setIfInBounds_toArray, List.set_cons_zero, List.set_cons_succ, i64_w, i32_w]
        rfl
      refine pure_ (i := 12) (N := some 27) (v := ?_) (a' := ?_) #[true, true, true, true, true, true, true, true, true, true, true, true, true, false] rfl rfl (by kernel_rfl) (fun _ _ _ h => h) (Or.inl ⟨by rfl, ?_⟩) ?_ ?_
      rotate_left
      · intro w'
        go_simp
        with_reducible rfl
      rotate_left
      · simp only [Act.put, List.setIfInBounds_toArray, List.set_cons_zero, List.set_cons_succ, i64_w, i32_w]
        rfl
      refine last_ (i := 13) (N := none) #[true, true, true, true, true, true, true, true, true, true, true, true, true, true] rfl rfl (by kernel_rfl) (by decide) (fun K hK => ?_)
      refine skip_ (w1 := ?_) (by rfl) rfl ?_ ?_
      rotate_left
      · go_simp
        rfl
      refine hK.out _ _ ?_
      clear hK K
      refine done_ (by kernel_rfl) ?_
      all_goals (
        go_wp2
        go_roundw
        case rel =>
          first
          | exact ⟨k + 1, by first | rfl | go_num, hlt, Lib.hid ⟨_, by rw [← HST.out]; exact HI9.out⟩, HB9⟩
          | (refine ⟨_, _, _, _, _, _, _, _, _, _, _, _, _, ?_, rfl⟩
             exact ⟨k + 1, by first | rfl | go_num, hlt, Lib.hid ⟨_, by rw [← HST.out]; exact HI9.out⟩, HB9⟩)
        case measure => simp [intOf]; omega)
    · obtain rfl : k = l.length := by omega
      rw [List.take_length] at HI
      obtain ⟨m, hm⟩ : ∃ m, m = l.map tCh := ⟨_, rfl⟩
      have hx2 : x2 = ⟨0, 16, true, [], m⟩ := by rw [HX2.out, tL, hm]
      rw [← hm] at HI
      clear hm
      subst hx2
      obtain ⟨Az, cz, hv, hlz⟩ := HI.out.lies
      subst hv
      go_wp2_with fail
      have hd : Below wr.heap.size wr wr.drew := (Below.refl _ _).drew
      have HI5 := Lib.hid (HI.out.below hd)
      have HLZ := Lib.hid (hlz.below hd)
      have HB5 : Hid (Below w.heap.size w wr.drew) := Lib.hid (HBW.out.trans (hd.mono HBW.out.size))
      have HZ5 : Hid (wr.drew.heap[w.heap.size]? = some (.cells #[.int .i64 0, .int .i64 0, .bool false, .slice none 0 0, .slice none 0 0] 33 (0, 0))) := Lib.hid (blk_below ((HBr.out.block w.heap.size (by have := HG.out; omega)).trans HZ2.out) hd)
      have s0 : wr.drew.cell? ⟨g, 0, none⟩ = some (.int .i64 0) := blk_cell HI5.out.hg 0
      have s1 : wr.drew.cell? ⟨g, 1, none⟩ = some (.int .i64 16) := blk_cell HI5.out.hg 1
      have s2 : wr.drew.cell? ⟨g, 2, none⟩ = some (.bool true) := blk_cell HI5.out.hg 2
      have s3 : wr.drew.cell? ⟨g, 3, none⟩ = some (.slice none 0 0) := blk_cell HI5.out.hg 3
      have s4 : wr.drew.cell? ⟨g, 4, none⟩ = some (.slice Az m.length cz) := blk_cell HI5.out.hg 4
      clear hlz hd
      go_region_with (first
        | (go_at_call 47
           with_reducible refine (HO1.out _).mono ?_
           rintro e W6 h6
           obtain ⟨F3, f3, F4, f4, rfl, hl6, hB6⟩ := h6.open
           have u0 : W6.cell? ⟨g, 0, none⟩ = some (.int .i64 0) := blk_cell (blk_below HI5.out.hg hB6) 0
           have u1 : W6.cell? ⟨g, 1, none⟩ = some (.int .i64 16) := blk_cell (blk_below HI5.out.hg hB6) 1
           have u2 : W6.cell? ⟨g, 2, none⟩ = some (.bool true) := blk_cell (blk_below HI5.out.hg hB6) 2
           have u3 : W6.cell? ⟨g, 3, none⟩ = some (.slice none 0 0) := blk_cell (blk_below HI5.out.hg hB6) 3
           have u4 : W6.cell? ⟨g, 4, none⟩ = some (.slice Az m.length cz) := blk_cell (blk_below HI5.out.hg hB6) 4
           have HL6 := Lib.hid (hl6.low (b' := w.heap.size + 1) (by have h1 := HI.out.lt; have h2 := HG.out; show w.heap.size + 1 ≤ wr.heap.size; omega))
           have HL26 := Lib.hid ((HLZ.out.low (b' := w.heap.size + 1) (by have h2 := HG.out; omega)).below hB6)
           have HZ6 := Lib.hid (blk_below HZ5.out hB6)
           have HB6 := Lib.hid (HB5.out.trans (hB6.mono HB5.out.size))
           clear h6 hl6 hB6)
        | (go_at_call 46
           obtain ⟨V, hV⟩ : ∃ V, V = W6.alloc (.cells #[.int .i64 x1.f0, .int .i64 x1.f1, .bool x1.f2, .slice F3 x1.f3.length f3, .slice F4 x1.f4.length f4, .int .i64 0, .int .i64 16, .bool true, .slice none 0 0, .slice Az m.length cz] 33) := ⟨_, rfl⟩
           rw [← hV]
           have hbV : Below W6.heap.size W6 V := by rw [hV]; exact below_alloc (Below.refl _ _) _
           have hXV : V.heap[W6.heap.size]? = some (.cells #[.int .i64 x1.f0, .int .i64 x1.f1, .bool x1.f2, .slice F3 x1.f3.length f3, .slice F4 x1.f4.length f4, .int .i64 0, .int .i64 16, .bool true, .slice none 0 0, .slice Az m.length cz] 33 (0, 0)) := by rw [hV]; exact blk_new _ _
           have hsz : w.heap.size + 1 ≤ W6.heap.size := by have h1 := blk_lt HZ6.out; omega
           have hF : Kd.F k33 V (fun k => w.heap.size + 1 ≤ k) (some ⟨W6.heap.size, 0, none⟩) [x1, ⟨0, 16, true, [], m⟩].length [x1, ⟨0, 16, true, [], m⟩] := F2 (x := x1) (y := ⟨0, 16, true, [], m⟩) hXV hsz (HL6.out.below hbV) (HL26.out.below hbV)
           with_reducible refine (HLI.out (some ⟨W6.heap.size, 0, none⟩) 2 V hF (Nat.le_refl _) (Nat.le_trans hsz hbV.size)).mono ?_
           rintro e W7 h7
           obtain ⟨Y3, y3, Y4, y4, rfl, hl7, hB7⟩ := h7.open
           have hb67 := hbV.trans (hB7.mono hbV.size)
           have HL7 := Lib.hid hl7
           have HZ7 := Lib.hid (blk_below HZ6.out hb67)
           have HB7 := Lib.hid (HB6.out.trans (hb67.mono HB6.out.size))
           have k0 : W7.cell? ⟨w.heap.size, 0, none⟩ = some (.int .i64 0) := blk_cell HZ7.out 0
           have k1 : W7.cell? ⟨w.heap.size, 1, none⟩ = some (.int .i64 0) := blk_cell HZ7.out 1
           have k2 : W7.cell? ⟨w.heap.size, 2, none⟩ = some (.bool false) := blk_cell HZ7.out 2
           have k3 : W7.cell? ⟨w.heap.size, 3, none⟩ = some (.slice none 0 0) := blk_cell HZ7.out 3
           have k4 : W7.cell? ⟨w.heap.size, 4, none⟩ = some (.slice none 0 0) := blk_cell HZ7.out 4
           have kf0 := blk_frozen HZ7.out 0
           have kf1 := blk_frozen HZ7.out 1
           have kf2 := blk_frozen HZ7.out 2
           have kf3 := blk_frozen HZ7.out 3
           have kf4 := blk_frozen HZ7.out 4
           clear hV hbV hXV hsz hF h7 hl7 hB7 hb67))
      all_goals (
        go_wp2
        obtain ⟨h5, hend⟩ := nw_end (b := w.heap.size) (B := w.heap.size + 1) (n := w.heap.size) (x := y) HB7.out (Nat.le_refl _) (fun k hk => by omega) (by omega) HZ7.out HL7.out.1 HL7.out.2.1 HL7.out.2.2.1 HL7.out.2.2.2 rfl
        try simp only [Exit.inBlock, Exit.then]
        exact bodyPost_ret (results_c rfl _ _ _ _ _ _ _ rfl h5 Tryd.underlying33 rfl size33) rfl hend)
end Go.Proofs.YtbmcpjkhnhbjdaaDoor.Ber

namespace Go.Proofs.YtbmcpjkhnhbjdaaDoor.Ber
open Go.RowKit Go.Proofs.YtbmcpjkhnhbjdaaDoorW.PrintWords Go.Proofs.YtbmcpjkhnhbjdaaDoor.PFnEncode Go.Proofs.YtbmcpjkhnhbjdaaDoorW.PrintLast Go.Proofs.YtbmcpjkhnhbjdaaDoor.Tree Go.Proofs.YtbmcpjkhnhbjdaaDoor.Buf Go.Proofs.YtbmcpjkhnhbjdaaDoor.Pk Go.Proofs.YtbmcpjkhnhbjdaaDoor.Within Go.Proofs.YtbmcpjkhnhbjdaaDoor.Num
set_option linter.unusedVariables false
set_option linter.unusedSimpArgs false
theorem fits10_ends (op : Int) (nm : ByteArray) (l : List (List Int)) : ∃ k b, laws_zzFits10.f k op nm l = some b ∧ (b = true → nm.size ≤ 2147483647 ∧ l.length ≤ 2147483647) := by
  obtain ⟨k, b, hb, hi⟩ := fits11_ends nm l
  refine ⟨k, b, ?_, hi⟩
  rw [laws_zzFits10.f, hb]
  cases b <;> rfl
theorem rd_T51_at {l : List S51} {j : Nat} (h : j < l.length) : rd_T51 l (j : Int) = l[j] := by
  rw [rd_T51, Int.toNat_natCast, List.getD_eq_getElem?_getD, List.getElem?_eq_getElem h]
  rfl
theorem fits9_l0 (l : List S51) (hl : l.length ≤ 2147483647) : ∀ (n j : Nat), j + n = l.length → ∃ k b, laws_zzFits9.l0 k l (l.length : Int) (j : Int) = some b ∧ (b = true → ∀ a, a ∈ l.drop j → fitA a.f1) := by
  intro n
  induction n with
  | zero =>
    intro j hj
    refine ⟨1, true, by rw [laws_zzFits9.l0, if_neg (by omega)], fun _ a ha => ?_⟩
    rw [List.drop_eq_nil_of_le (by omega)] at ha
    exact absurd ha (by simp)
  | succ n ih =>
    intro j hj
    have hlt : j < l.length := by omega
    have e : wrap64 ((j : Int) + 1) = ((j + 1 : Nat) : Int) := by unfold wrap64; omega
    obtain ⟨k1, b1, h1, i1⟩ := fits10_ends l[j].f0 l[j].f1.f0 l[j].f1.f1
    obtain ⟨k2, b2, h2, i2⟩ := ih (j + 1) (by omega)
    have h1' := at_rounds (laws_zzFits10.mono _ _ _) (Nat.le_max_left k1 k2) h1
    have h2' := at_rounds (fun k => (laws_zzFits9.mono_l k) _ _ _) (Nat.le_max_right k1 k2) h2
    cases b1 with
    | false =>
      refine ⟨max k1 k2 + 1, false, ?_, fun h => absurd h (by decide)⟩
      rw [laws_zzFits9.l0, if_pos (by omega), if_pos (by omega), if_pos (by omega), rd_T51_at hlt, h1']
      rfl
    | true =>
      refine ⟨max k1 k2 + 1, b2, ?_, fun hb a ha => ?_⟩
      · rw [laws_zzFits9.l0, if_pos (by omega), if_pos (by omega), if_pos (by omega), rd_T51_at hlt, h1', e]
        exact h2'
      · rw [List.drop_eq_getElem_cons hlt] at ha
        rcases List.mem_cons.1 ha with rfl | ha
        · exact i1 rfl
        · exact i2 hb a ha
theorem fits9_ends (l : List S51) : ∃ k b, laws_zzFits9.f k l = some b ∧ (b = true → l.length ≤ 2147483647 ∧ ∀ a, a ∈ l → fitA a.f1) := by
  by_cases h : (l.length : Int) > 2147483647
  · exact ⟨0, false, by rw [laws_zzFits9.f, if_pos h], fun h => absurd h (by decide)⟩
  · obtain ⟨k, b, hb, hi⟩ := fits9_l0 l (by omega) l.length 0 (by omega)
    exact ⟨k, b, by rw [laws_zzFits9.f, if_neg h]; exact hb, fun hbt => ⟨by omega, fun a ha => hi hbt a (by simpa using ha)⟩⟩

/-- a change as the reference's -/
def chS (a : S51) : S60 := ⟨a.f0, attrOf a.f1⟩
/-- a change that is compared -/
def okM (a : S51) : Prop := shortA a.f1 ∧ 0 ≤ a.f0 ∧ a.f0 ≤ 3
theorem okC_of {a : S51} (h : okM a) : okC (chOf a) := ⟨⟨h.2.1, Int.le_trans h.2.2 (by decide)⟩, okA_of h.1⟩
theorem okCh_of {a : S51} (h : okM a) : okCh (chS a) := ⟨⟨h.2.1, Int.le_trans h.2.2 (by decide)⟩, okA_of h.1⟩
theorem mir_at (a : S58) : mir (dAt a) = tAttr a := by
  have h1 : mirL (a.f1.map fun s => (⟨0, 4, false, bytesOf s, []⟩ : S27)) = a.f1.map tO := by
    rw [mirL_eq, List.map_map]
    exact List.map_congr_left (fun s _ => by simp [mir, mirL, tO])
  unfold dAt
  simp only [mir, mirL, h1]
  rfl
theorem mir_Mod (dn : ByteArray) (l : List S51) : mir (dMod dn (l.map chOf)) = tOp 6 [tO dn, tL ((l.map chS).map tCh)] := by
  have h2 : mirL ((l.map chOf).map dCh) = (l.map chS).map tCh := by
    rw [mirL_eq, List.map_map, List.map_map, List.map_map]
    refine List.map_congr_left (fun a _ => ?_)
    simp only [Function.comp_apply, dCh, mir, mirL, mir_at]
    rfl
  unfold dMod
  simp only [mir, mirL, h2]
  rfl
theorem dp_chs (l : List S60) : tdpL (l.map tCh) ≤ 4 := by
  induction l with
  | nil => simp [tdpL]
  | cons a l ih =>
    have := dp_os a.f1.f1
    rw [List.map_cons, tdpL]
    simp only [tCh, tC, tAttr, tL, tSet, tO, tdp, tdpL] at this ⊢
    omega
theorem dp_Mod (dn : ByteArray) (l : List S51) : tdp (mir (dMod dn (l.map chOf))) ≤ 60 := by
  have := dp_chs (l.map chS)
  rw [mir_Mod]
  simp only [tOp, tL, tO, tdp, tdpL]
  omega
theorem sz_ch (a : S51) (h : okM a) : tsize (tCh (chS a)) ≤ 5100 := by
  have h1 := sz_attr (attrOf a.f1) (shortS_of h.1)
  have h2 := whole_len a.f0 (by have := h.2.1; have := h.2.2; omega)
  simp only [tCh, chS, tC, tL, tsize, tsizeL, List.length_nil] at h1 ⊢
  omega
theorem sz_chs (l : List S51) : (∀ a, a ∈ l → okM a) → tsizeL ((l.map chS).map tCh) ≤ l.length * 5100 := by
  induction l with
  | nil => intro _; simp [tsizeL]
  | cons a l ih =>
    intro h
    have h1 := ih (fun x hx => h x (List.mem_cons_of_mem _ hx))
    have h2 := sz_ch a (h a (by simp))
    rw [List.map_cons, List.map_cons, tsizeL, List.length_cons]
    omega
theorem sz_Mod (dn : ByteArray) (l : List S51) (hdn : dn.size ≤ 200) (hl : ∀ a, a ∈ l → okM a) (hn : l.length ≤ 10) : tsize (mir (dMod dn (l.map chOf))) ≤ 200000 := by
  have h1 := sz_chs l hl
  rw [mir_Mod]
  simp only [tOp, tL, tO, tsize, tsizeL, bytesOf_length, List.length_nil]
  omega
/-- one element in a block -/
theorem C_one {α : Type} {k : Kd α} {W : World} {n t : Nat} {cs : List Value} {x : α} (hb : W.heap[n]? = some (.cells cs.toArray t (0, 0))) (hK : k.K W x cs) : Kd.C k W (some ⟨n, 0, none⟩) 1 [x] := by
  refine ⟨rfl, by decide, fun _ => ⟨⟨n, 0, none⟩, rfl, fun j p hj => ?_⟩⟩
  rcases j with _ | j
  · obtain rfl : x = p := by simpa using hj
    refine ⟨cs, k.K_len hK, hK, fun i u hu => ?_⟩
    have h1 := blk_cell hb i
    rw [← Array.getElem?_toList, List.toList_toArray, hu] at h1
    rw [show (Addr.add ⟨n, 0, none⟩ (0 * k.sz + i)) = ⟨n, i, none⟩ by unfold Addr.add; simp; omega, h1]
  · simp at hj
theorem info_sc : (Tryd.prog.info? 60).map (fun i => (i.zero, i.size, i.bytes)) = some (some (.agg #[.int .i64 0, .string ⟨#[]⟩, .slice none 0 0]), 3, 48) := by kernel_rfl
set_option maxHeartbeats 3200000 in
set_option maxRecDepth 100000 in
theorem fnModify_any (dn : ByteArray) (l : List S51) (A : Option Addr) (c : Nat) (w : World) (hC : Kd.C k51 w A l.length l) (hc : l.length ≤ c) :
    Calls Tryd.prog 6 #[.string dn, .slice A l.length c] w fun e w' => e = .returned (.bool true) ∧ Below w.heap.size w w' := by
  have HB := Lib.hid (Below.refl w.heap.size w)
  by_cases h0 : 2147483647 < dn.size
  · have e1 : decide (2147483647 < (dn.size : Int)) = true := decide_eq_true (by omega)
    have e2 : decide (2147483647 < dn.size) = true := decide_eq_true h0
    clear h0 hC hc
    go_enter Tryd.func6, Tryd.ntmps6
    go_wp2
    go_ret
    exact ⟨rfl, HB.out⟩
  have e0_1 : decide (2147483647 < (dn.size : Int)) = false := decide_eq_false (by omega)
  have e0_2 : decide (2147483647 < dn.size) = false := decide_eq_false h0
  clear h0
  obtain ⟨k9, b9, hf9, hi9⟩ := fits9_ends l
  have HF9 : Hid (Calls Tryd.prog 21 #[.slice A l.length c] w fun e w' => e = .returned (.bool b9) ∧ Below w.heap.size w w') := Lib.hid (laws_zzFits9.calls k9 A c l b9 w hC hc hf9)
  clear hf9
  cases b9 with
  | false =>
    clear hi9 hC hc
    go_enter Tryd.func6, Tryd.ntmps6
    go_wp2_with (first
      | (go_at_call 21
         with_reducible refine HF9.out.mono ?_
         rintro e W1 ⟨rfl, hB1⟩
         have HB1 := Lib.hid hB1
         clear hB1)
      )
    go_ret
    exact ⟨rfl, HB1.out⟩
  | true =>
  obtain ⟨hln, hfa⟩ := hi9 rfl
  clear hi9
  have HSH : Hid (∀ u W, W = u.alloc (.cells #[.string dn] 9) → Calls Tryd.prog 10 #[.slice (some ⟨u.heap.size, 0, none⟩) 1 1] W fun e w' => e = .returned (.bool (shortT [dn])) ∧ Below u.heap.size u w') := Lib.hid (fun u W hW => by
    have hb : W.heap[u.heap.size]? = some (.cells #[.string dn] 9 (0, 0)) := by rw [hW]; exact blk_new _ _
    have hB : Below u.heap.size u W := by rw [hW]; exact below_alloc (Below.refl _ _) _
    refine (short_any [dn] (some ⟨u.heap.size, 0, none⟩) 1 W (strs_block hb rfl (by simp)) (Nat.le_refl _) (by simp)).mono ?_
    rintro e w' ⟨he, hb'⟩
    exact ⟨he, hB.trans (hb'.mono hB.size)⟩)
  cases hsh : shortT [dn] with
  | false =>
    rw [hsh] at HSH
    clear hsh hC hc hln hfa
    go_enter Tryd.func6, Tryd.ntmps6
    go_wp2_with (first
      | (go_at_call 21
         with_reducible refine HF9.out.mono ?_
         rintro e W1 ⟨rfl, hB1⟩
         have HB1 := Lib.hid hB1
         clear hB1)
      | (go_at_call 10
         with_reducible refine (HSH.out W1 _ rfl).mono ?_
         rintro e W3 ⟨rfl, hB3⟩
         have HB3 := Lib.hid (HB1.out.trans (hB3.mono HB1.out.size))
         clear hB3)
      | (go_at_call 11
         refine (works_any _).mono ?_
         rintro e W9 ⟨rfl, hB9⟩
         have HB9 := Lib.hid (HB3.out.trans (hB9.mono HB3.out.size))
         clear hB9))
    go_ret
    exact ⟨rfl, HB9.out⟩
  | true =>
  rw [hsh] at HSH
  have zdn : dn.size ≤ 200 := by
    simp only [shortT, List.all_cons, List.all_nil, Bool.and_true, Bool.and_eq_true, decide_eq_true_eq] at hsh
    exact hsh.1
  clear hsh
  by_cases h10 : 10 < l.length
  · have e3 : decide ((10 : Int) < (l.length : Int)) = true := decide_eq_true (by omega)
    have e4 : decide (10 < l.length) = true := decide_eq_true h10
    clear h10 hC hc hln hfa zdn
    go_enter Tryd.func6, Tryd.ntmps6
    go_wp2_with (first
      | (go_at_call 21
         with_reducible refine HF9.out.mono ?_
         rintro e W1 ⟨rfl, hB1⟩
         have HB1 := Lib.hid hB1
         clear hB1)
      | (go_at_call 10
         with_reducible refine (HSH.out W1 _ rfl).mono ?_
         rintro e W3 ⟨rfl, hB3⟩
         have HB3 := Lib.hid (HB1.out.trans (hB3.mono HB1.out.size))
         clear hB3)
      | (go_at_call 11
         refine (works_any _).mono ?_
         rintro e W9 ⟨rfl, hB9⟩
         have HB9 := Lib.hid (HB3.out.trans (hB9.mono HB3.out.size))
         clear hB9))
    go_ret
    exact ⟨rfl, HB9.out⟩
  have e3 : decide ((10 : Int) < (l.length : Int)) = false := decide_eq_false (by omega)
  have e4 : decide (10 < l.length) = false := decide_eq_false h10
  have hn10 : l.length ≤ 10 := by omega
  clear h10
  have HC := Lib.hid hC
  have HFA := Lib.hid hfa
  have HZ := Lib.hid (And.intro zdn hn10)
  clear hC hc hfa zdn
  go_enter Tryd.func6, Tryd.ntmps6
  go_wp2_with (first
      | (go_at_call 21
         with_reducible refine HF9.out.mono ?_
         rintro e W1 ⟨rfl, hB1⟩
         have HB1 := Lib.hid hB1
         clear hB1)
      | (go_at_call 10
         with_reducible refine (HSH.out W1 _ rfl).mono ?_
         rintro e W3 ⟨rfl, hB3⟩
         have HB3 := Lib.hid (HB1.out.trans (hB3.mono HB1.out.size))
         clear hB3)
      )
  clear HSH HF9
  go_loopw [32, 5] (fun i lv wr => ∃ k : Nat, i = .int .i64 k ∧ k ≤ l.length ∧ Hid (Kd.N k60 60 wr w.heap.size (fun q => w.heap.size ≤ q) lv ((l.take k).map chS)) ∧ Hid (Below w.heap.size w wr) ∧ Hid (∀ a, a ∈ l.take k → okM a)) (fun i _ _ => l.length - (intOf i).toNat)
  case atStart => exact ⟨0, rfl, Nat.zero_le _, Lib.hid (Kd.N_nil _ _ _ _ _), HB3, Lib.hid (fun a ha => by simp at ha)⟩
  case round =>
    obtain ⟨k, rfl, hk, HN, HBr, HOKS⟩ := hrel
    by_cases hlt : k < l.length
    · obtain ⟨ad, A1, c1, rfl, e0, e1, e2, l1, g1⟩ := at_T51 HC.out (k : Int) (by omega) (by omega)
      rw [rd_T51_at hlt] at e0 e1 e2 l1 g1
      rw [Int.toNat_natCast] at e0 e1 e2
      replace e0 := (HBr.out.cell (World.block_lt_of_cell? w _ e0)).trans e0
      replace e1 := (HBr.out.cell (World.block_lt_of_cell? w _ e1)).trans e1
      replace e2 := (HBr.out.cell (World.block_lt_of_cell? w _ e2)).trans e2
      have HST : Hid ((l.take k).map chS ++ [chS l[k]] = (l.take (k + 1)).map chS) := Lib.hid (by rw [List.take_succ_eq_append_getElem hlt, List.map_append]; rfl)
      have HOK1 : Hid (okM l[k] → ∀ a, a ∈ l.take (k + 1) → okM a) := Lib.hid (fun h a ha => by
        rw [List.take_succ_eq_append_getElem hlt] at ha
        rcases List.mem_append.1 ha with h1 | h1
        · exact HOKS.out a h1
        · obtain rfl : a = l[k] := by simpa using h1
          exact h)
      have HLE : Hid ((((l.take k).map chS).length + 1) * 48 ≤ 140737488355328) := Lib.hid (by rw [List.length_map, List.length_take]; omega)
      have hfit := HFA.out l[k] (List.getElem_mem hlt)
      obtain ⟨s, hs⟩ : ∃ s, s = l[k] := ⟨_, rfl⟩
      obtain ⟨acc, hacc⟩ : ∃ acc, acc = (l.take k).map chS := ⟨_, rfl⟩
      rw [← hs] at e0 e1 e2 HST HOK1 g1 l1 hfit
      rw [← hacc] at HST HLE HN
      obtain ⟨ka, ra, ba, hfa, hia⟩ := attributes_ends [s.f1] (by simp) (fun a ha => by rw [List.mem_singleton.1 ha]; exact hfit)
      have HG1 := Lib.hid (Kd.C_below g1 HBr.out)
      have HAT : Hid (∀ u V : World, Below wr.heap.size wr u → V = u.alloc (.cells #[.string s.f1.f0, .slice A1 s.f1.f1.length c1] 49) → Calls Tryd.prog 22 #[.slice (some ⟨u.heap.size, 0, none⟩) 1 1] V fun e w' => ∃ v0_ : Value, e = .returned (.tuple #[v0_, .bool ba]) ∧ Kd.S k58 58 w' u.heap.size (fun _ => True) v0_ ra ∧ Below u.heap.size u w') := Lib.hid (fun u V hu hV => by
        have hb : V.heap[u.heap.size]? = some (.cells [.string s.f1.f0, .slice A1 s.f1.f1.length c1].toArray 49 (0, 0)) := by rw [hV]; exact blk_new _ _
        have hB : Below u.heap.size u V := by rw [hV]; exact below_alloc (Below.refl _ _) _
        refine (laws_attributes.calls ka (some ⟨u.heap.size, 0, none⟩) 1 [s.f1] ra ba V (C_one hb (k49_mk V s.f1 l1 (Kd.C_below (Kd.C_below HG1.out hu) hB))) (Nat.le_refl _) hfa).mono ?_
        rintro e w' ⟨v0, he, hS, hb'⟩
        exact ⟨v0, he, Kd.S_lower hS hB.size, hB.trans (hb'.mono hB.size)⟩)
      clear hs hacc g1 l1 hfa hfit HC HFA HOKS
      go_upto_region 9 with fail
      obtain ⟨W5, hW5⟩ : ∃ W5, W5 = wr.alloc (.cells #[.int .i64 s.f0, .string s.f1.f0, .slice A1 s.f1.f1.length c1] 51) := ⟨_, rfl⟩
      rw [← hW5]
      have hb5 : Below wr.heap.size wr W5 := by rw [hW5]; exact below_alloc (Below.refl _ _) _
      have hx5 : W5.heap[wr.heap.size]? = some (.cells #[.int .i64 s.f0, .string s.f1.f0, .slice A1 s.f1.f1.length c1] 51 (0, 0)) := by rw [hW5]; exact blk_new _ _
      have HX5 := Lib.hid hx5
      have HB5 := Lib.hid (HBr.out.trans (hb5.mono HBr.out.size))
      have HN5 := Lib.hid (Kd.N_below HN.out hb5)
      have HL5 : Hid (wr.heap.size < W5.heap.size) := Lib.hid (blk_lt hx5)
      replace HAT := Lib.hid (fun V hV => HAT.out W5 V hb5 hV)
      have q0 : W5.cell? ⟨wr.heap.size, 0, none⟩ = some (.int .i64 s.f0) := blk_cell hx5 0
      have q1 : W5.cell? ⟨wr.heap.size, 1, none⟩ = some (.string s.f1.f0) := blk_cell hx5 1
      have q2 : W5.cell? ⟨wr.heap.size, 2, none⟩ = some (.slice A1 s.f1.f1.length c1) := blk_cell hx5 2
      have HNV : Hid (some wr.heap.size ≠ u5.ownBlock) := Lib.hid (fun e => by have := Kd.N_lt HN.out _ e.symm; omega)
      clear hW5 hb5 hx5
      cases ba with
      | false =>
        go_wp2_with (first
          | (go_at_call 22
             with_reducible refine (HAT.out _ rfl).mono ?_
             rintro e W7 ⟨v7, rfl, hS7, hB7⟩
             have q7 : W7.cell? ⟨wr.heap.size, 0, none⟩ = some (.int .i64 s.f0) := blk_cell (blk_below HX5.out hB7) 0
             have HB7 := Lib.hid (HB5.out.trans (hB7.mono HB5.out.size))
             clear hS7 hB7)
          | (go_at_call 11
             refine (works_any _).mono ?_
             rintro e W9 ⟨rfl, hB9⟩
             have HB9 := Lib.hid (HB7.out.trans (hB9.mono HB7.out.size))
             clear hB9))
        go_ret
        exact ⟨rfl, HB9.out⟩
      | true =>
      obtain ⟨hra, _, hsh⟩ := hia rfl
      subst hra
      have hsa := hsh s.f1 (by simp)
      clear hia hsh
      by_cases hneg : s.f0 < 0
      · have d1 : decide (s.f0 < 0) = true := decide_eq_true hneg
        clear hsa
        go_wp2_with (first
          | (go_at_call 22
             with_reducible refine (HAT.out _ rfl).mono ?_
             rintro e W7 ⟨v7, rfl, hS7, hB7⟩
             have q7 : W7.cell? ⟨wr.heap.size, 0, none⟩ = some (.int .i64 s.f0) := blk_cell (blk_below HX5.out hB7) 0
             have HB7 := Lib.hid (HB5.out.trans (hB7.mono HB5.out.size))
             clear hS7 hB7)
          | (go_at_call 11
             refine (works_any _).mono ?_
             rintro e W9 ⟨rfl, hB9⟩
             have HB9 := Lib.hid (HB7.out.trans (hB9.mono HB7.out.size))
             clear hB9))
        go_ret
        exact ⟨rfl, HB9.out⟩
      have d1 : decide (s.f0 < 0) = false := decide_eq_false hneg
      by_cases hbig : 3 < s.f0
      · have d2 : decide (3 < s.f0) = true := decide_eq_true hbig
        clear hsa
        go_wp2_with (first
          | (go_at_call 22
             with_reducible refine (HAT.out _ rfl).mono ?_
             rintro e W7 ⟨v7, rfl, hS7, hB7⟩
             have q7 : W7.cell? ⟨wr.heap.size, 0, none⟩ = some (.int .i64 s.f0) := blk_cell (blk_below HX5.out hB7) 0
             have HB7 := Lib.hid (HB5.out.trans (hB7.mono HB5.out.size))
             clear hS7 hB7)
          | (go_at_call 11
             refine (works_any _).mono ?_
             rintro e W9 ⟨rfl, hB9⟩
             have HB9 := Lib.hid (HB7.out.trans (hB9.mono HB7.out.size))
             clear hB9))
        go_ret
        exact ⟨rfl, HB9.out⟩
      have d2 : decide (3 < s.f0) = false := decide_eq_false hbig
      have HO1 := Lib.hid (HOK1.out ⟨hsa, by omega, by omega⟩)
      obtain ⟨vs, hvs⟩ : ∃ vs, vs = s.f1.f1.map strOfNums := ⟨_, rfl⟩
      have hat : attrOf s.f1 = ⟨s.f1.f0, vs⟩ := by rw [hvs]; rfl
      rw [show List.map attrOf [s.f1] = [⟨s.f1.f0, vs⟩] by rw [← hat]; rfl] at HAT
      have hch : chS s = ⟨s.f0, ⟨s.f1.f0, vs⟩⟩ := by rw [chS, hat]
      rw [hch] at HST
      obtain ⟨x, hx⟩ : ∃ x : S60, x = ⟨s.f0, ⟨s.f1.f0, vs⟩⟩ := ⟨_, rfl⟩
      rw [← hx] at HST
      have HXX := Lib.hid hx
      clear hsa hneg hbig hvs hat hch hx
      go_wp2_with (first
          | (go_at_call 22
             with_reducible refine (HAT.out _ rfl).mono ?_
             rintro e W7 ⟨v7, rfl, hS7, hB7⟩
             have q7 : W7.cell? ⟨wr.heap.size, 0, none⟩ = some (.int .i64 s.f0) := blk_cell (blk_below HX5.out hB7) 0
             have HB7 := Lib.hid (HB5.out.trans (hB7.mono HB5.out.size))
             obtain ⟨g, c2, rfl, hg7, hgl7, cs7, hcs7⟩ := Kd.S_form hS7 (by simp)
             have hF7 := Kd.R_F (Kd.R_bound (Kd.S_R hS7))
             obtain ⟨ad7, cc7, ha7, hcl7, hFK7, hcc7, _⟩ := Kd.F_get hF7 z58 0 (by decide) (by simp)
             obtain rfl : ⟨g, 0, none⟩ = ad7 := by injection ha7
             obtain ⟨A3, c3, rfl, l3, hF3⟩ := k58_openF hFK7
             have hy0 : W7.cell? ⟨g, 0, none⟩ = some (.string s.f1.f0) := hcc7 0 _ rfl
             have hy1 : W7.cell? ⟨g, 1, none⟩ = some (.slice A3 vs.length c3) := hcc7 1 _ rfl
             have HE0 : Hid (cs7[0]? = some (.string s.f1.f0)) := Lib.hid ((blk_cell hcs7 0).symm.trans hy0)
             have HE1 : Hid (cs7[1]? = some (.slice A3 vs.length c3)) := Lib.hid ((blk_cell hcs7 1).symm.trans hy1)
             have hd7 : Below W7.heap.size W7 W7.drew := (Below.refl _ _).drew
             have HY7 := Lib.hid (blk_below hcs7 hd7)
             have HX7 := Lib.hid (blk_below (blk_below HX5.out hB7) hd7)
             have HN8 := Lib.hid (Kd.N_below (Kd.N_below HN5.out hB7) hd7)
             have HB8 := Lib.hid (HB7.out.trans (hd7.mono HB7.out.size))
             have HNG : Hid (some g ≠ u5.ownBlock) := Lib.hid (fun e => by have := Kd.N_lt HN.out _ e.symm; have := HL5.out; omega)
             have HK8 : Hid (Kd.FK k60 W7.drew (fun q => w.heap.size ≤ q ∧ some q ≠ u5.ownBlock) x [.int .i64 s.f0, .string s.f1.f0, .slice A3 vs.length c3]) := Lib.hid (by
               rw [HXX.out]
               refine k60_mkF W7.drew _ ⟨s.f0, ⟨s.f1.f0, vs⟩⟩ l3 (Kd.F_below (Kd.F_mono hF3 (fun q hq => ?_)) hd7)
               have h1 := hq.2.1
               have h2 := HL5.out
               have h3 := HBr.out.size
               refine ⟨by omega, fun e => ?_⟩
               have := Kd.N_lt HN.out q e.symm
               omega)
             clear hy0 hy1 hcs7 hd7 hF7 ha7 hcl7 hFK7 hcc7 hF3 hg7 hgl7 l3
             clear hS7 hB7)
          )
      refine start_ (n := 10) (S := fun w' => w'.cell? ⟨wr.heap.size, 0, none⟩ = some (.int .i64 s.f0) ∧ w'.cell? ⟨g, 0, none⟩ = some (.string s.f1.f0) ∧ w'.cell? ⟨g, 1, none⟩ = some (.slice A3 vs.length c3)) (ds := []) #[false, false, false, false, false, false, false, false, false, false] (by kernel_rfl) rfl rfl ⟨blk_cell HX7.out 0, (blk_cell HY7.out 0).trans HE0.out, (blk_cell HY7.out 1).trans HE1.out⟩ (fun hHeld => ?_)
      refine pure_ (i := 0) (N := some 56) (v := ?_) (a' := ?_) #[true, false, false, false, false, false, false, false, false, false] rfl rfl (by kernel_rfl) (fun _ _ _ h => h) (Or.inl ⟨by rfl, ?_⟩) ?_ ?_
      rotate_left
      · intro w'
        go_simp
        with_reducible rfl
      rotate_left
      · simp only [Act.put, List.setIfInBounds_toArray, List.set_cons_zero, List.set_cons_succ, i64_w, i32_w]
        rfl
      refine pure_ (i := 1) (N := some 57) (v := ?_) (a' := ?_) #[true, true, false, false, false, false, false, false, false, false] rfl rfl (by kernel_rfl) (fun _ _ _ h => h) (Or.inl ⟨by rfl, ?_⟩) ?_ ?_
      rotate_left
      · intro w'
        go_simp
        with_reducible rfl
      rotate_left
      · simp only [Act.put, List.setIfInBounds_toArray, List.set_cons_zero, List.set_cons_succ, i64_w, i32_w]
        rfl
      refine pure_ (i := 3) (N := some 59) (v := ?_) (a' := ?_) #[true, true, false, true, false, false, false, false, false, false] rfl rfl (by kernel_rfl) (fun _ _ _ h => h) (Or.inl ⟨by rfl, ?_⟩) ?_ ?_
      rotate_left
      · intro w'
        go_simp
        with_reducible rfl
      rotate_left
      · simp only [Act.put, List.setIfInBounds_toArray, List.set_cons_zero, List.set_cons_succ, i64_w, i32_w]
        rfl
      refine pure_ (i := 4) (N := some 60) (v := ?_) (a' := ?_) #[true, true, false, true, true, false, false, false, false, false] rfl rfl (by kernel_rfl) (fun _ _ _ h => h) (Or.inl ⟨by rfl, ?_⟩) ?_ ?_
      rotate_left
      · intro w'
        go_simp
        with_reducible rfl
      rotate_left
      · simp only [Act.put, List.setIfInBounds_toArray, List.set_cons_zero, List.set_cons_succ, i64_w, i32_w]
        rfl
      refine take_ (i := 2) (N := some 58) (v := ?_) (a' := ?_) #[true, true, true, true, true, false, false, false, false, false] rfl rfl (by kernel_rfl) (fun _ _ _ h => h) (Or.inl ⟨by rfl, ?_⟩) hHeld ?_ ?_
      rotate_left
      · rintro w' ⟨s0, s1, s2⟩
        go_simp
        with_reducible rfl
      rotate_left
      · simp only [Act.put, List.setIfInBounds_toArray, List.set_cons_zero, List.set_cons_succ, i64_w, i32_w]
        rfl
      refine take_ (i := 5) (N := some 61) (v := ?_) (a' := ?_) #[true, true, true, true, true, true, false, false, false, false] rfl rfl (by kernel_rfl) (fun _ _ _ h => h) (Or.inl ⟨by rfl, ?_⟩) hHeld ?_ ?_
      rotate_left
      · rintro w' ⟨s0, s1, s2⟩
        go_simp
        with_reducible rfl
      rotate_left
      · simp only [Act.put, List.setIfInBounds_toArray, List.set_cons_zero, List.set_cons_succ, i64_w, i32_w]
        rfl
      refine pure_ (i := 6) (N := some 62) (v := ?_) (a' := ?_) #[true, true, true, true, true, true, true, false, false, false] rfl rfl (by kernel_rfl) (fun _ _ _ h => h) (Or.inl ⟨by rfl, ?_⟩) ?_ ?_
      rotate_left
      · intro w'
        go_simp
        with_reducible rfl
      rotate_left
      · simp only [Act.put, List.setIfInBounds_toArray, List.set_cons_zero, List.set_cons_succ, i64_w, i32_w]
        rfl
      refine one_ (i := 7) (N := some 63) #[true, true, true, true, true, true, true, true, false, false] rfl rfl (by kernel_rfl) (by decide) (fun K hK => ?_)
      refine value_ (w1 := ?_) (v := ?_) (by rfl) rfl ?_ ?_
      rotate_left 2
      · go_simp
        constructor
        · rfl
        · rfl
      refine hK.out _ _ ⟨blk_cell (blk_alloc HX7.out _) 0, (blk_cell (blk_alloc HY7.out _) 0).trans HE0.out, (blk_cell (blk_alloc HY7.out _) 1).trans HE1.out⟩ (fun hHeld => ?_)
      clear hK K
      refine norm_ (a' := ?_) ?_ ?_
      rotate_left
      · show Act.put _ (some 63) _ = _
        simp only [Act.put, List.setIfInBounds_toArray, List.set_cons_zero, List.set_cons_succ, i64_w, i32_w]
        rfl
      refine one_ (i := 8) (N := some 64) #[true, true, true, true, true, true, true, true, true, false] rfl rfl (by kernel_rfl) (by decide) (fun K hK => ?_)
      refine Kd.N_append_step k60 (w0 := W7.drew) (W := W7.drew) w.heap.size (by rfl) (.tmp 56) (.tmp 63) 46 60 (.agg #[.int .i64 0, .string ⟨#[]⟩, .slice none 0 0]) 48 (by rfl) Tryd.underlying46 info_sc rfl (show 0 < 3 by decide) (by decide) u5 acc x _ (fun q => w.heap.size ≤ q) _ (by rfl) (by rfl) HK8.out (fun _ h => h) (fun q hq => Nat.le_trans HB8.out.size hq) HN8.out (Below.refl _ _) HB8.out.size HLE.out ?_
      intro v1 w1 hR hb hg hat
      have HX9 := Lib.hid (blk_grown HX7.out hg HNV.out)
      have HY9 := Lib.hid (blk_grown HY7.out hg HNG.out)
      have HN9 := Lib.hid hR
      have HB9 := Lib.hid (HB8.out.trans hb)
      clear hR hb hg hat
      refine hK.out _ _ ⟨blk_cell HX9.out 0, (blk_cell HY9.out 0).trans HE0.out, (blk_cell HY9.out 1).trans HE1.out⟩ (fun hHeld => ?_)
      clear hK K
      refine norm_ (a' := ?_) ?_ ?_
      rotate_left
      · show Act.put _ (some 64) _ = _
        simp only [Act.put, List.setIfInBounds_toArray, List.set_cons_zero, List.set_cons_succ, i64_w, i32_w]
        rfl
      refine pure_ (i := 9) (N := some 5) (v := ?_) (a' := ?_) #[true, true, true, true, true, true, true, true, true, true] rfl rfl (by kernel_rfl) (fun _ _ _ h => h) (Or.inl ⟨by rfl, ?_⟩) ?_ ?_
      rotate_left
      · intro w'
        go_simp
        with_reducible rfl
      rotate_left
      · simp only [Act.put, List.setIfInBounds_toArray, List.set_cons_zero, List.set_cons_succ, i64_w, i32_w]
        rfl
      refine done_ (by kernel_rfl) ?_
      go_wp2
      exact ⟨⟨k + 1, by first | rfl | go_num, hlt, by rw [← HST.out]; exact HN9, HB9, HO1⟩, by simp [intOf]; omega⟩
    · obtain rfl : k = l.length := by omega
      rw [List.take_length] at HN HOKS
      have hok : ∀ a, a ∈ l → okM a := HOKS.out
      have zdn := HZ.out.1
      have hn10 := HZ.out.2
      obtain ⟨A5, c5, rfl, l5, hC5⟩ := Kd.N_reads HN.out
      have HI0 : Hid (∀ W, Below wr.heap.size wr W → Calls Tryd.prog 23 #[.string dn, .slice A l.length c] W (OpRes W (dMod dn (l.map chOf)))) := Lib.hid (fun W hb => iMod_any dn l A c W (Kd.C_below HC.out (HBr.out.trans (hb.mono HBr.out.size))) (by omega) (fun a ha => okC_of (hok a ha)) (by omega))
      have HSP0 : Hid (∀ W, Below wr.heap.size wr W → Calls Tryd.prog 24 #[.string dn, .slice A5 (l.map chS).length c5] W (Nw W.heap.size W (tOp 6 [tO dn, tL ((l.map chS).map tCh)]))) := Lib.hid (fun W hb => sMod_nw dn (l.map chS) A5 c5 W (Kd.C_below hC5 hb) (by omega) (fun a ha => by obtain ⟨b, hb, rfl⟩ := List.mem_map.1 ha; exact okCh_of (hok b hb)) (by rw [List.length_map]; omega))
      have hmir0 := mir_Mod dn l
      have hdp0 := dp_Mod dn l
      have hts0 := sz_Mod dn l zdn hok hn10
      obtain ⟨p0, hp0⟩ : ∃ p, p = dMod dn (l.map chOf) := ⟨_, rfl⟩
      obtain ⟨y0, hy0⟩ : ∃ y, y = tOp 6 [tO dn, tL ((l.map chS).map tCh)] := ⟨_, rfl⟩
      obtain ⟨m, hm⟩ : ∃ m, m = l.map chS := ⟨_, rfl⟩
      rw [← hp0] at HI0 hmir0 hdp0 hts0
      rw [← hy0] at HSP0 hmir0
      rw [← hm] at HSP0
      have HSA0 : Hid (∀ (A3 : Option Addr) (c3 : Nat) (A4 : Option Addr) (c4 : Nat) (B3 : Option Addr) (d3 : Nat) (B4 : Option Addr) (d4 : Nat) (W : World), p0.f3.length ≤ c3 → (Kd.int .u8).C W A3 p0.f3.length p0.f3 → p0.f4.length ≤ c4 → k27.C W A4 p0.f4.length p0.f4 → y0.f3.length ≤ d3 → (Kd.int .u8).C W B3 y0.f3.length y0.f3 → y0.f4.length ≤ d4 → k33.C W B4 y0.f4.length y0.f4 →
          Calls Tryd.prog 13 #[.agg #[.int .i64 p0.f0, .int .i64 p0.f1, .bool p0.f2, .slice A3 p0.f3.length c3, .slice A4 p0.f4.length c4], .bool true, .agg #[.int .i64 y0.f0, .int .i64 y0.f1, .bool y0.f2, .slice B3 y0.f3.length d3, .slice B4 y0.f4.length d4]] W fun e w' => e = .returned (.bool true) ∧ Below W.heap.size W w') :=
        Lib.hid (fun A3 c3 A4 c4 B3 d3 B4 d4 W q1 q2 q3 q4 q5 q6 q7 q8 => same_any p0 hdp0 hts0 A3 c3 A4 c4 y0 hmir0.symm B3 d3 B4 d4 W q1 q2 q3 q4 q5 q6 q7 q8)
      have HB1_ : Hid (Below wr.heap.size wr wr) := Lib.hid (Below.refl _ _)
      clear hp0 hy0 hmir0 hdp0 hts0 zdn hok hn10 HOKS HN l5 hC5
      rw [← hm]
      clear hm
      go_wp2_with (first
        | (go_at_call 23
           with_reducible refine (HI0.out wr HB1_.out).mono ?_
           rintro e R0 ⟨A0_3, c0_3, A0_4, c0_4, rfl, l3, h3, l4, h4, hB2⟩
           have HBR0 := Lib.hid (HB1_.out.trans (hB2.mono HB1_.out.size))
           have HF0 := Lib.hid (And.intro l3 (And.intro (Kd.F_now h3) (And.intro l4 (Kd.F_now h4))))
           clear l3 h3 l4 h4 hB2))
      obtain ⟨V0, hV⟩ : ∃ V, V = R0.alloc (.cells #[.int .i64 p0.f0, .int .i64 p0.f1, .bool p0.f2, .slice A0_3 p0.f3.length c0_3, .slice A0_4 p0.f4.length c0_4] 27) := ⟨_, rfl⟩
      rw [← hV]
      have hbV : Below R0.heap.size R0 V0 := by rw [hV]; exact below_alloc (Below.refl _ _) _
      have hX0 : V0.heap[R0.heap.size]? = some (.cells #[.int .i64 p0.f0, .int .i64 p0.f1, .bool p0.f2, .slice A0_3 p0.f3.length c0_3, .slice A0_4 p0.f4.length c0_4] 27 (0, 0)) := by rw [hV]; exact blk_new _ _
      clear hV
      have HBD : Hid (Below R0.heap.size R0 V0.drew) := Lib.hid hbV.drew
      have a0_0 : V0.drew.cell? ⟨R0.heap.size, 0, none⟩ = some (.int .i64 p0.f0) := blk_cell hX0 0
      have a0_1 : V0.drew.cell? ⟨R0.heap.size, 1, none⟩ = some (.int .i64 p0.f1) := blk_cell hX0 1
      have a0_2 : V0.drew.cell? ⟨R0.heap.size, 2, none⟩ = some (.bool p0.f2) := blk_cell hX0 2
      have a0_3 : V0.drew.cell? ⟨R0.heap.size, 3, none⟩ = some (.slice A0_3 p0.f3.length c0_3) := blk_cell hX0 3
      have a0_4 : V0.drew.cell? ⟨R0.heap.size, 4, none⟩ = some (.slice A0_4 p0.f4.length c0_4) := blk_cell hX0 4
      have HY0 : Hid (V0.drew.heap[R0.heap.size]? = some (.cells #[.int .i64 p0.f0, .int .i64 p0.f1, .bool p0.f2, .slice A0_3 p0.f3.length c0_3, .slice A0_4 p0.f4.length c0_4] 27 (0, 0))) := Lib.hid hX0
      have HBV := Lib.hid (HBR0.out.trans (HBD.out.mono HBR0.out.size))
      have HG0 := Lib.hid (And.intro HF0.out.1 (And.intro (Kd.C_below HF0.out.2.1 HBD.out) (And.intro HF0.out.2.2.1 (Kd.C_below HF0.out.2.2.2 HBD.out))))
      clear hbV hX0
      go_region_with (first
        | (go_at_call 24
           with_reducible refine (HSP0.out _ HBV.out).mono ?_
           rintro e S0 h5
           obtain ⟨B0_3, d0_3, B0_4, d0_4, rfl, hl5, hB5⟩ := h5.open
           have HBS0 := Lib.hid (HBV.out.trans (hB5.mono HBV.out.size))
           have hx0 := blk_below HY0.out hB5
           have u0_0_0 : S0.cell? ⟨R0.heap.size, 0, none⟩ = some (.int .i64 p0.f0) := blk_cell hx0 0
           have u0_0_1 : S0.cell? ⟨R0.heap.size, 1, none⟩ = some (.int .i64 p0.f1) := blk_cell hx0 1
           have u0_0_2 : S0.cell? ⟨R0.heap.size, 2, none⟩ = some (.bool p0.f2) := blk_cell hx0 2
           have u0_0_3 : S0.cell? ⟨R0.heap.size, 3, none⟩ = some (.slice A0_3 p0.f3.length c0_3) := blk_cell hx0 3
           have u0_0_4 : S0.cell? ⟨R0.heap.size, 4, none⟩ = some (.slice A0_4 p0.f4.length c0_4) := blk_cell hx0 4
           have HGS0_0 := Lib.hid (And.intro HG0.out.1 (And.intro (Kd.C_below HG0.out.2.1 hB5) (And.intro HG0.out.2.2.1 (Kd.C_below HG0.out.2.2.2 hB5))))
           have HQ0 := Lib.hid (HSA0.out A0_3 c0_3 A0_4 c0_4 B0_3 d0_3 B0_4 d0_4 S0 HGS0_0.out.1 HGS0_0.out.2.1 HGS0_0.out.2.2.1 HGS0_0.out.2.2.2 hl5.1 (Kd.F_now hl5.2.1) hl5.2.2.1 (Kd.F_now hl5.2.2.2))
           clear h5 hl5 hB5 hx0)
        | (go_at_call 13
           first
           | (with_reducible refine HQ0.out.mono ?_
              rintro e Q0 ⟨rfl, hB6⟩
              have HBQ0 := Lib.hid (HBS0.out.trans (hB6.mono HBS0.out.size))
              clear hB6)))
      all_goals (
        go_wp2
        go_ret
        exact ⟨rfl, HBr.out.trans (HBQ0.out.mono HBr.out.size)⟩)
end Go.Proofs.YtbmcpjkhnhbjdaaDoor.Ber

namespace Go.Proofs.YtbmcpjkhnhbjdaaDoor.Open
open Go.RowKit Go.Proofs.YtbmcpjkhnhbjdaaDoorW.PrintWords Go.Proofs.YtbmcpjkhnhbjdaaDoor.PFnEncode
set_option linter.unusedVariables false
set_option linter.unusedSimpArgs false
section
variable {H : Type} {enc : TypeId × Value → H} {W : World}
theorem opens_attr (N : Nat) : Opens enc Tryd.prog W (N + 3) 49 k49 (fun _ => True) := by
  have h1 : Opens enc Tryd.prog W (N + 1) 24 (Kd.slice 5 (Kd.int .u8)) _ := Opens.slice (opens_int N Tryd.underlying5) Tryd.underlying24 (by kernel_rfl) (of_decide_eq_true (by kernel_rfl))
  have h2 : Opens enc Tryd.prog W (N + 2) 47 (Kd.slice 24 (Kd.slice 5 (Kd.int .u8))) _ := Opens.slice h1 Tryd.underlying47 (by kernel_rfl) (of_decide_eq_true (by kernel_rfl))
  have hst := Opens.struct (P := Tryd.prog) (enc := enc) (W := W) Tryd.underlying49 (OpensFrom.cons (opens_string (N + 2) Tryd.underlying9) (OpensFrom.one h2 (by kernel_rfl) (by kernel_rfl)) (by kernel_rfl))
  exact (hst.iso (fun x : S49 => (x.f0, x.f1)) (fun y => ⟨y.1, y.2⟩) (fun _ => rfl)).imp (fun _ _ => trivial)
theorem opensA (N : Nat) : Opens enc Tryd.prog W (N + 4) 55 (Kd.slice 49 k49) (fun _ => True) :=
  (Opens.slice (opens_attr N) Tryd.underlying55 (by kernel_rfl) (of_decide_eq_true (by kernel_rfl))).imp (fun _ _ => trivial)
theorem opensC (N : Nat) : Opens enc Tryd.prog W (N + 5) 44 (Kd.slice 51 k51) (fun _ => True) := by
  have hst := Opens.struct (P := Tryd.prog) (enc := enc) (W := W) Tryd.underlying51 (OpensFrom.cons (opens_int (N + 3) (k := .i64) Tryd.underlying3) (OpensFrom.one (opens_attr N) (by kernel_rfl) (by kernel_rfl)) (by kernel_rfl))
  exact (Opens.slice (hst.iso (fun x : S51 => (x.f0, x.f1)) (fun y => ⟨y.1, y.2⟩) (fun _ => rfl)) Tryd.underlying44 (by kernel_rfl) (of_decide_eq_true (by kernel_rfl))).imp (fun _ _ => trivial)
end
end Go.Proofs.YtbmcpjkhnhbjdaaDoor.Open

namespace Go.Proofs.YtbmcpjkhnhbjdaaDoor.RowFnModify
open Go.ChangeShapes Go.WideShapes Go.ChangeAt Go.RowKit
open Go.ChangeMaps (open_string shut_string)
set_option linter.unusedVariables false
set_option linter.unusedSimpArgs false
theorem own : ownKnob Tryd.prog.godebug = none := by kernel_rfl
theorem laidOut : laidOutB Tryd.prog = true := by kernel_rfl
set_option maxRecDepth 100000 in
theorem lifted (os : Os) (started : os.Started) (H : Type) (enc : TypeId × Value → H) :
    ReturnsInHanded {} Tryd.checked os 6 .any (fun w args => (Rows.fnModifySpec.pre enc Tryd.prog Tryd.f6 [] false w args ∧ laidMetH Tryd.prog Rows.fnModifyRow.laid w) ∧ sizedMet enc Tryd.prog Tryd.f6 (OpenSpec.ofChange Rows.fnModifySpec) false w args)
      (Rows.fnModifySpec.post enc Tryd.prog Tryd.f6 false true false false) := by
  refine returnsInHanded_of_change_and (C := Tryd.checked) (X := fun w _ => laidMetH Tryd.prog Rows.fnModifyRow.laid w) (fun _ _ _ hh h => h.of_heap hh) own started (by kernel_rfl) Tryd.func6
    (ChangeSpec.witness_shaped (enc := enc) (C := Tryd.checked) (os := os) (X := fun w _ => laidMetH Tryd.prog Rows.fnModifyRow.laid w) false (World.laidAll Tryd.prog os Rows.fnModifyRow.laid) #[.string ByteArray.empty, .slice none 0 0] 8 (World.laidAll_os _ _ _)
      (World.shaped_of_ZipB (by kernel_rfl) (by kernel_rfl)) (by kernel_rfl) (by kernel_rfl) (by kernel_rfl)
      (by rw [MakeChecks.laidMetH_plain _ _ _ (by kernel_rfl)]; exact laidMet_laidAll _ (by kernel_rfl) (by kernel_rfl))) ?_
  intro W base args ds gs before hval0 hW _ hsz0 _ _
  have hval : ∀ (j : Nat) t v, Tryd.f6.params[j]? = some t → args[j]? = some v → Value.okWide Tryd.prog W .any base t v := hval0
  have hsz : (DataW.weightsEach Tryd.prog (Tryd.f6.params.toList ++ Rows.fnModifySpec.plain.varTypes Tryd.prog) (ds ++ gs)).all (· ≤ reachBytes) = true := hsz0
  have hW' := hW
  obtain ⟨p, q, hA0, hV, rfl, _, _⟩ := hW
  have hA : DataW.TrodAll enc Tryd.prog W 0 (fun _ => true) true Tryd.f6.params.toList args.toList ds p := hA0
  rw [Tryd.params6] at hA hval hsz
  obtain ⟨v0, vs0, d0, ds0, p0, q0, hargs, rfl, rfl, h0, r0⟩ := trodAll_cons hA
  obtain ⟨v1, vs1, d1, ds1, p1, q1, rfl, rfl, rfl, h1, r1⟩ := trodAll_cons r0
  obtain ⟨rfl, rfl, rfl⟩ := trodAll_nil r1
  obtain rfl : args = #[v0, v1] := by cases args; simp_all
  obtain ⟨rfl, rfl⟩ := trodVars_none hV
  have hw : ∀ y ∈ DataW.weightsEach Tryd.prog [9, 44] [d0, d1], y ≤ reachBytes := fun y hy => of_decide_eq_true (List.all_eq_true.1 hsz y hy)
  obtain ⟨a0, rfl, rfl, rfl, y0⟩ := open_string Tryd.underlying9 (hval 0 9 v0 rfl rfl) h0
  have lt1 : ∀ x ∈ p1, x.block < W.heap.size := by obtain ⟨m, hm⟩ := h1; exact DataW.trod_lt m _ _ _ hm
  obtain ⟨A1, l1, c1, rfl⟩ := okWide_slice Tryd.underlying44 (hval 1 44 v1 rfl rfl)
  obtain ⟨f1, hf1⟩ := h1
  obtain ⟨x1, ⟨B1, e1, hk1, g1, m1⟩, _⟩ := (Open.opensC (enc := enc) (W := W) f1).down (Nat.le_add_right _ 5) f1 (Nat.le_refl _) _ d1 p1 hf1 (fun y hy => hw y (List.mem_append.2 (.inr (List.mem_append.2 (.inl hy)))))
  have hv1 : Value.slice A1 l1 c1 = .slice B1 x1.length e1 := by simpa [Value.cells] using hk1
  injection hv1 with qa1 qb1 qc1
  subst qa1 qb1 qc1
  clear hA0 hval0 hsz0
  refine (Ber.fnModify_any a0 x1 A1 c1 W m1 g1).mono fun e W' ⟨he, bel⟩ => ?_
  subst he
  exact ⟨_, rfl, _, _, _, [], _, [], hW', trodAll_mk1 (shut_bool Tryd.underlying4 _), (trodAll_cons_mk (shut_string Tryd.underlying9 y0) (trodAll_cons_mk (Below.trod laidOut (by kernel_rfl) (of_decide_eq_true (by kernel_rfl)) ⟨f1, hf1⟩ bel lt1) trodAll_mk0)), rfl, bel.frame _, fun h => by cases h⟩
end Go.Proofs.YtbmcpjkhnhbjdaaDoor.RowFnModify

namespace Go.Proofs.YtbmcpjkhnhbjdaaDoor.Facts
theorem joined_of {P : Program} {f : FuncId} {fn : Func} {s : ChangeSpec} {c : OpenClaim} 
    (h0 : (c.wf (OpenSpec.ofChange s)) = true)
    (h1 : (laidOutB P) = true)
    (h2 : (mapsRowed P) = true)
    (h3 : (fn.params.all (P.readableRec ·)) = true)
    (h4 : (namedTie P c.named s.vars) = true)
    (h5 : ((c.stops == [])) = true)
    (h6 : ((P.stops == [])) = true)
    (h7 : ((c.knobs == [])) = true)
    (h8 : ((P.stopKnobs == [])) = true)
    (h9 : ((c.inPlace == P.inPlace f)) = true)
    (h10 : ((c.unfollowed == P.unfollowed f)) = true)
    (h11 : ((c.recurses == P.recurses f)) = true)
    (h12 : ((c.named == P.varsNamed f)) = true)
    (h13 : ((c.maps == (fn.params.toList ++ s.plain.varTypes P).any (P.mapsRec ·))) = true)
    (h14 : ((c.ifaces == (fn.params.toList ++ s.plain.varTypes P).any (P.ifacesRec ·))) = true)
    (h15 : ((c.mapsOut == P.mapsAmong fn.resultTypes.toList)) = true)
    (h16 : ((c.loops == (fn.params.toList ++ s.plain.varTypes P).any (P.loopsFrom ·))) = true)
    (h17 : ((c.wideKeys == (fn.params.toList ++ s.plain.varTypes P ++ fn.resultTypes.toList).any (P.wideKeysFrom ·))) = true)
    (h18 : (s.vars.all (P.varReadable ·)) = true)
    (h19 : (fn.resultTypes.all (fun t => P.readableRec t && decide (t < P.types.size))) = true)
    (h20 : ((c.ifacesOut == fn.resultTypes.toList.any (P.ifacesRec ·))) = true)
    (h21 : ((c.loopsOut == fn.resultTypes.toList.any (P.loopsFrom ·))) = true)
    (h22 : ((c.plainKeys == P.plainKeys)) = true)
    (h23 : (c.shortTexts.isNone) = true)
    (h24 : (P.stopsHeard) = true)
    (h25 : (P.mayEnter) = true)
    (h26 : ((c.lifted == P.liftsFinal)) = true)
    (h27 : ((P.make == some c.make)) = true)
    (h28 : ((c.kinds == (if c.domain.isEmpty then [] else fn.params.toList.map fun t => match P.underlying t with | some (.int k) => some k | _ => none))) = true)
    (h29 : ((c.pinned == c.pinnedBy)) = true)
    (h30 : ((c.veiled == (fn.params.toList ++ s.plain.varTypes P ++ fn.resultTypes.toList).any (P.veiledRec ·))) = true)
    (h31 : (c.veiledFits P fn.params.toList (fn.params.toList ++ s.plain.varTypes P ++ fn.resultTypes.toList)) = true) : joinedFacts P f fn s c = true := by
  simp only [joinedFacts, Bool.and_eq_true]
  exact ⟨⟨⟨⟨⟨⟨⟨⟨⟨⟨⟨⟨⟨⟨⟨⟨⟨⟨⟨⟨⟨⟨⟨⟨⟨⟨⟨⟨⟨⟨⟨h0, h1⟩, h2⟩, h3⟩, h4⟩, h5⟩, h6⟩, h7⟩, h8⟩, h9⟩, h10⟩, h11⟩, h12⟩, h13⟩, h14⟩, h15⟩, h16⟩, h17⟩, h18⟩, h19⟩, h20⟩, h21⟩, h22⟩, h23⟩, h24⟩, h25⟩, h26⟩, h27⟩, h28⟩, h29⟩, h30⟩, h31⟩
theorem k1 : (laidOutB Tryd.prog) = true := by kernel_rfl
theorem k2 : (mapsRowed Tryd.prog) = true := by kernel_rfl
theorem k6 : ((Tryd.prog.stops == [])) = true := by kernel_rfl
theorem k8 : ((Tryd.prog.stopKnobs == [])) = true := by kernel_rfl
theorem k22 : ((Rows.fnModifyRow.plainKeys == Tryd.prog.plainKeys)) = true := by kernel_rfl
theorem k24 : (Tryd.prog.stopsHeard) = true := by kernel_rfl
theorem k25 : (Tryd.prog.mayEnter) = true := by kernel_rfl
theorem k26 : ((Rows.fnModifyRow.lifted == Tryd.prog.liftsFinal)) = true := by kernel_rfl
theorem k27 : ((Tryd.prog.make == some Rows.fnModifyRow.make)) = true := by kernel_rfl
end Go.Proofs.YtbmcpjkhnhbjdaaDoor.Facts

namespace Go.Proofs.YtbmcpjkhnhbjdaaDoor.OverFnModify
open Go.ChangeShapes Go.WideShapes Go.ChangeAt Go.RowKit
theorem k0 : (Rows.fnModifyRow.wf (OpenSpec.ofChange Rows.fnModifySpec)) = true := by kernel_rfl
theorem k1 : (laidOutB Tryd.prog) = true := Facts.k1
theorem k2 : (mapsRowed Tryd.prog) = true := Facts.k2
theorem k3 : (Tryd.f6.params.all (Tryd.prog.readableRec ·)) = true := by kernel_rfl
theorem k4 : (namedTie Tryd.prog Rows.fnModifyRow.named Rows.fnModifySpec.vars) = true := by kernel_rfl
theorem k5 : ((Rows.fnModifyRow.stops == [])) = true := by kernel_rfl
theorem k6 : ((Tryd.prog.stops == [])) = true := Facts.k6
theorem k7 : ((Rows.fnModifyRow.knobs == [])) = true := by kernel_rfl
theorem k8 : ((Tryd.prog.stopKnobs == [])) = true := Facts.k8
theorem k9 : ((Rows.fnModifyRow.inPlace == Tryd.prog.inPlace 6)) = true := by kernel_rfl
theorem k10 : ((Rows.fnModifyRow.unfollowed == Tryd.prog.unfollowed 6)) = true := by kernel_rfl
theorem k11 : ((Rows.fnModifyRow.recurses == Tryd.prog.recurses 6)) = true := by kernel_rfl
theorem k12 : ((Rows.fnModifyRow.named == Tryd.prog.varsNamed 6)) = true := by kernel_rfl
theorem k13 : ((Rows.fnModifyRow.maps == (Tryd.f6.params.toList ++ Rows.fnModifySpec.plain.varTypes Tryd.prog).any (Tryd.prog.mapsRec ·))) = true := by kernel_rfl
theorem k14 : ((Rows.fnModifyRow.ifaces == (Tryd.f6.params.toList ++ Rows.fnModifySpec.plain.varTypes Tryd.prog).any (Tryd.prog.ifacesRec ·))) = true := by kernel_rfl
theorem k15 : ((Rows.fnModifyRow.mapsOut == Tryd.prog.mapsAmong Tryd.f6.resultTypes.toList)) = true := by kernel_rfl
theorem k16 : ((Rows.fnModifyRow.loops == (Tryd.f6.params.toList ++ Rows.fnModifySpec.plain.varTypes Tryd.prog).any (Tryd.prog.loopsFrom ·))) = true := by kernel_rfl
theorem k17 : ((Rows.fnModifyRow.wideKeys == (Tryd.f6.params.toList ++ Rows.fnModifySpec.plain.varTypes Tryd.prog ++ Tryd.f6.resultTypes.toList).any (Tryd.prog.wideKeysFrom ·))) = true := by kernel_rfl
theorem k18 : (Rows.fnModifySpec.vars.all (Tryd.prog.varReadable ·)) = true := by kernel_rfl
theorem k19 : (Tryd.f6.resultTypes.all (fun t => Tryd.prog.readableRec t && decide (t < Tryd.prog.types.size))) = true := by kernel_rfl
theorem k20 : ((Rows.fnModifyRow.ifacesOut == Tryd.f6.resultTypes.toList.any (Tryd.prog.ifacesRec ·))) = true := by kernel_rfl
theorem k21 : ((Rows.fnModifyRow.loopsOut == Tryd.f6.resultTypes.toList.any (Tryd.prog.loopsFrom ·))) = true := by kernel_rfl
theorem k22 : ((Rows.fnModifyRow.plainKeys == Tryd.prog.plainKeys)) = true := Facts.k22
theorem k23 : (Rows.fnModifyRow.shortTexts.isNone) = true := by kernel_rfl
theorem k24 : (Tryd.prog.stopsHeard) = true := Facts.k24
theorem k25 : (Tryd.prog.mayEnter) = true := Facts.k25
theorem k26 : ((Rows.fnModifyRow.lifted == Tryd.prog.liftsFinal)) = true := Facts.k26
theorem k27 : ((Tryd.prog.make == some Rows.fnModifyRow.make)) = true := Facts.k27
theorem k28 : ((Rows.fnModifyRow.kinds == (if Rows.fnModifyRow.domain.isEmpty then [] else Tryd.f6.params.toList.map fun t => match Tryd.prog.underlying t with | some (.int k) => some k | _ => none))) = true := by kernel_rfl
theorem k29 : ((Rows.fnModifyRow.pinned == Rows.fnModifyRow.pinnedBy)) = true := by kernel_rfl
theorem k30 : ((Rows.fnModifyRow.veiled == (Tryd.f6.params.toList ++ Rows.fnModifySpec.plain.varTypes Tryd.prog ++ Tryd.f6.resultTypes.toList).any (Tryd.prog.veiledRec ·))) = true := by kernel_rfl
theorem k31 : (Rows.fnModifyRow.veiledFits Tryd.prog Tryd.f6.params.toList (Tryd.f6.params.toList ++ Rows.fnModifySpec.plain.varTypes Tryd.prog ++ Tryd.f6.resultTypes.toList)) = true := by kernel_rfl
set_option maxRecDepth 100000 in
theorem joined : joinedFacts Tryd.prog 6 Tryd.f6 Rows.fnModifySpec Rows.fnModifyRow = true := Facts.joined_of k0 k1 k2 k3 k4 k5 k6 k7 k8 k9 k10 k11 k12 k13 k14 k15 k16 k17 k18 k19 k20 k21 k22 k23 k24 k25 k26 k27 k28 k29 k30 k31
theorem named : Tryd.prog.funcNamed "goldap/laws.FnModify" = some 6 := by kernel_rfl
theorem inst : Tryd.f6.isInstance Tryd.prog Rows.fnModifyRow.origin Rows.fnModifyRow.targs := of_decide_eq_true (by kernel_rfl)
theorem wrap : Tryd.f6.isWrapper Tryd.prog Rows.fnModifyRow.wrapper Rows.fnModifyRow.mainSum := by unfold Func.isWrapper; first | (rw [if_pos (by decide +kernel)]; kernel_rfl) | (rw [if_neg (by decide +kernel)]; exact ⟨rfl, rfl⟩)
theorem over : Rows.FnModifySaid :=
  OpenClaim.holds_of_wide 6 Tryd.f6 rfl rfl rfl rfl rfl rfl rfl ⟨rfl, rfl, rfl, rfl, rfl⟩ rfl rfl rfl rfl rfl named Tryd.func6 joined inst wrap
    (fun os started H enc _ => RowFnModify.lifted os started H enc)
theorem plainArgs : (Tryd.f6.params.toList.all fun t => !(Tryd.prog.wantsStandIn t)) = true := by kernel_rfl
end Go.Proofs.YtbmcpjkhnhbjdaaDoor.OverFnModify
namespace Go.Proofs.YtbmcpjkhnhbjdaaDoor
theorem fnModify_card : Rows.FnModifyCardSaid :=
  Claim7.holds_tied_plain_at .later [] [.sentinel] true (true, "02e7ab89ffa108ae3204427b224f76f33429535afac2a54c8e9935a69e6f7323") true
    OverFnModify.over (fun _ h => by cases h) (by kernel_rfl) (fun _ h => by cases h) fnModify_row_tie rfl ⟨rfl, rfl⟩ (by kernel_rfl) rfl
    (fun f fn hf hfn => by
      obtain rfl : f = 6 := Option.some.inj (OverFnModify.named.symm.trans hf) |>.symm
      obtain rfl : fn = Tryd.f6 := (Option.some.inj (Tryd.func6.symm.trans hfn)).symm
      exact ⟨by kernel_rfl, fun j t ht => by
        have hm : t ∈ Tryd.f6.params.toList := by
          rw [← Array.getElem?_toList] at ht
          exact List.mem_of_getElem? ht
        have := List.all_eq_true.1 OverFnModify.plainArgs t hm
        show Tryd.prog.wantsStandIn t = false
        simpa using this⟩)
    (by kernel_rfl)
#print axioms fnModify_card
end Go.Proofs.YtbmcpjkhnhbjdaaDoor
