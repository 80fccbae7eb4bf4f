/- Parts of the proof of one law, in the order in which they build. laws.control: the control of the reference, and whether it is compared. · spec.Message: the packet of a message. -/
import Derived.Deep.RegionLaw
import Derived.Test.YtbmcpjkhnhbjdaaDoorMsg1
import Derived.Test.YtbmcpjkhnhbjdaaDoorMsg2
import Derived.Test.YtbmcpjkhnhbjdaaDoorMsg3
import Derived.Test.YtbmcpjkhnhbjdaaDoorMsg4
import Derived.Test.YtbmcpjkhnhbjdaaDoorMsg5
import Derived.Test.YtbmcpjkhnhbjdaaDoorMsg6
import Derived.Test.YtbmcpjkhnhbjdaaDoorMsg7
import Derived.Test.YtbmcpjkhnhbjdaaDoorMsg8
import Derived.Test.YtbmcpjkhnhbjdaaDoorMsg9
import Derived.Test.YtbmcpjkhnhbjdaaDoorMsg10
namespace Go.Proofs.YtbmcpjkhnhbjdaaDoor.Ber
open Go.RowKit Go.Proofs.YtbmcpjkhnhbjdaaDoorW.PrintWords Go.Proofs.YtbmcpjkhnhbjdaaDoor.PFnEncode Go.Proofs.YtbmcpjkhnhbjdaaDoorW.PrintLast Go.Proofs.YtbmcpjkhnhbjdaaDoor.Tree Go.Proofs.YtbmcpjkhnhbjdaaDoor.Buf Go.Proofs.YtbmcpjkhnhbjdaaDoor.Pk Go.Proofs.YtbmcpjkhnhbjdaaDoor.Within Go.Proofs.YtbmcpjkhnhbjdaaDoor.Num
set_option linter.unusedVariables false
set_option linter.unusedSimpArgs false

theorem far5 {W : World} {g h : Nat} {cs : Array Value} {t : TypeId} (hx : W.heap[h]? = some (.cells cs t (0, 0))) (hne : h ≠ g) (v0 v1 v2 v3 v4 : Value) : (((((W.setCell ⟨g, 0, none⟩ v0).setCell ⟨g, 1, none⟩ v1).setCell ⟨g, 2, none⟩ v2).setCell ⟨g, 3, none⟩ v3).setCell ⟨g, 4, none⟩ v4).heap[h]? = some (.cells cs t (0, 0)) :=
  blk_far (blk_far (blk_far (blk_far (blk_far hx (p := ⟨g, 0, none⟩) hne v0) (p := ⟨g, 1, none⟩) hne v1) (p := ⟨g, 2, none⟩) hne v2) (p := ⟨g, 3, none⟩) hne v3) (p := ⟨g, 4, none⟩) hne v4
theorem set5 {W : World} {g : Nat} {z0 z1 z2 z3 z4 : Value} {t : TypeId} (hx : W.heap[g]? = some (.cells #[z0, z1, z2, z3, z4] t (0, 0))) (v0 v1 v2 v3 v4 : Value) : (((((W.setCell ⟨g, 0, none⟩ v0).setCell ⟨g, 1, none⟩ v1).setCell ⟨g, 2, none⟩ v2).setCell ⟨g, 3, none⟩ v3).setCell ⟨g, 4, none⟩ v4).heap[g]? = some (.cells #[v0, v1, v2, v3, v4] t (0, 0)) :=
  blk_set (blk_set (blk_set (blk_set (blk_set hx 0 v0) 1 v1) 2 v2) 3 v3) 4 v4
theorem heap5 {W : World} {g k : Nat} (hne : k ≠ g) (v0 v1 v2 v3 v4 : Value) : (((((W.setCell ⟨g, 0, none⟩ v0).setCell ⟨g, 1, none⟩ v1).setCell ⟨g, 2, none⟩ v2).setCell ⟨g, 3, none⟩ v3).setCell ⟨g, 4, none⟩ v4).heap[k]? = W.heap[k]? := by
  rw [Below.heap_setCell _ ⟨g, 4, none⟩ v4 k hne, Below.heap_setCell _ ⟨g, 3, none⟩ v3 k hne, Below.heap_setCell _ ⟨g, 2, none⟩ v2 k hne, Below.heap_setCell _ ⟨g, 1, none⟩ v1 k hne, Below.heap_setCell _ ⟨g, 0, none⟩ v0 k hne]
theorem below5 {w W : World} {g B : Nat} (h : Below B w W) (hg : B ≤ g) (v0 v1 v2 v3 v4 : Value) : Below B w (((((W.setCell ⟨g, 0, none⟩ v0).setCell ⟨g, 1, none⟩ v1).setCell ⟨g, 2, none⟩ v2).setCell ⟨g, 3, none⟩ v3).setCell ⟨g, 4, none⟩ v4) :=
  ((((h.setCell (p := ⟨g, 0, none⟩) hg v0).setCell (p := ⟨g, 1, none⟩) hg v1).setCell (p := ⟨g, 2, none⟩) hg v2).setCell (p := ⟨g, 3, none⟩) hg v3).setCell (p := ⟨g, 4, none⟩) hg v4
theorem lies5 {b b' g : Nat} {W : World} {x : S33} {A3 : Option Addr} {c3 : Nat} {A4 : Option Addr} {c4 : Nat} (h : Lies b W x A3 c3 A4 c4) (hg : g < b) (hb : b' ≤ b) (v0 v1 v2 v3 v4 : Value) : Lies b' (((((W.setCell ⟨g, 0, none⟩ v0).setCell ⟨g, 1, none⟩ v1).setCell ⟨g, 2, none⟩ v2).setCell ⟨g, 3, none⟩ v3).setCell ⟨g, 4, none⟩ v4) x A3 c3 A4 c4 :=
  ⟨h.1, Kd.F_mono (Kd.F_step h.2.1 (fun k hk _ => heap5 (by omega) _ _ _ _ _)) (fun k hk => Nat.le_trans hb hk), h.2.2.1, Kd.F_mono (Kd.F_step h.2.2.2 (fun k hk _ => heap5 (by omega) _ _ _ _ _)) (fun k hk => Nat.le_trans hb hk)⟩
/-- what laws.control gives -/
def LC (w : World) (d : S33) (f : Bool) (e : Ending) (w' : World) : Prop := ∃ A3 c3 A4 c4, e = .returned (.tuple #[.agg #[.int .i64 d.f0, .int .i64 d.f1, .bool d.f2, .slice A3 d.f3.length c3, .slice A4 d.f4.length c4], .bool f]) ∧ Lies w.heap.size w' d A3 c3 A4 c4 ∧ Below w.heap.size w w'
theorem sCtl_nw (oid : ByteArray) (b : Bool) (l : List ByteArray) (A : Option Addr) (c : Nat) (w : World) (hC : Kd.string.C w A l.length l) (hoid : oid.size ≤ 1099511627776) (hl : ∀ s, s ∈ l → s.size ≤ 1099511627776) (hn : l.length ≤ 1000) :
    Calls Tryd.prog 74 #[.string oid, .bool b, .slice A l.length c] w (Nw w.heap.size w (sCtl oid b l)) := by
  cases b
  · exact sCtlF_nw oid l A c w hC hoid hl hn
  · exact sCtlT_nw oid l A c w hC hoid hl hn
set_option maxHeartbeats 3200000 in
set_option maxRecDepth 100000 in
theorem lctl2a (o : ByteArray) (b : Bool) (v : List Int) (n : Int) (ck : List Int) (A3 : Option Addr) (c3 : Nat) (A5 : Option Addr) (c5 : Nat) (w : World) (h4 : (n == 0) = false) :
    Calls Tryd.prog 39 #[.agg #[.int .i64 2, .string o, .bool b, .slice A3 v.length c3, .int .i64 n, .slice A5 ck.length c5]] w (LC w (sCtl ⟨#[50, 46, 49, 54, 46, 56, 52, 48, 46, 49, 46, 49, 49, 51, 55, 51, 48, 46, 51, 46, 52, 46, 50]⟩ b []) false) := by
  obtain ⟨W0, hW0⟩ : ∃ W0, W0 = (w.alloc (.cells #[.int .i64 2, .string o, .bool b, .slice A3 v.length c3, .int .i64 n, .slice A5 ck.length c5] 79)).alloc (.cells #[.int .i64 0, .int .i64 0, .bool false, .slice none 0 0, .slice none 0 0] 33) := ⟨_, rfl⟩
  have hb0 : Below w.heap.size w W0 := by rw [hW0]; exact below_alloc (below_alloc (Below.refl _ _) _) _
  have HX0 : Hid (W0.heap[w.heap.size]? = some (.cells #[.int .i64 2, .string o, .bool b, .slice A3 v.length c3, .int .i64 n, .slice A5 ck.length c5] 79 (0, 0))) := Lib.hid (by rw [hW0]; exact blk_alloc (blk_new _ _) _)
  have HR0 : Hid (W0.heap[w.heap.size + 1]? = some (.cells #[.int .i64 0, .int .i64 0, .bool false, .slice none 0 0, .slice none 0 0] 33 (0, 0))) := Lib.hid (by rw [hW0]; exact two_new _ _ _ _ _)
  have HX0d : Hid (W0.drew.heap[w.heap.size]? = some (.cells #[.int .i64 2, .string o, .bool b, .slice A3 v.length c3, .int .i64 n, .slice A5 ck.length c5] 79 (0, 0))) := Lib.hid HX0.out
  have HR0d : Hid (W0.drew.heap[w.heap.size + 1]? = some (.cells #[.int .i64 0, .int .i64 0, .bool false, .slice none 0 0, .slice none 0 0] 33 (0, 0))) := Lib.hid HR0.out
  have HSC : Hid (Calls Tryd.prog 74 #[.string ⟨#[50, 46, 49, 54, 46, 56, 52, 48, 46, 49, 46, 49, 49, 51, 55, 51, 48, 46, 51, 46, 52, 46, 50]⟩, .bool b, .slice none 0 0] W0.drew (Nw W0.drew.heap.size W0.drew (sCtl ⟨#[50, 46, 49, 54, 46, 56, 52, 48, 46, 49, 46, 49, 49, 51, 55, 51, 48, 46, 51, 46, 52, 46, 50]⟩ b []))) := Lib.hid (sCtl_nw _ b [] none 0 W0.drew (Kd.C_nil _ _) (by decide) (fun s hs => by cases hs) (by decide))
  have HB0 := Lib.hid hb0
  have HW0 := Lib.hid hW0
  obtain ⟨d, hd⟩ : ∃ d, d = sCtl ⟨#[50, 46, 49, 54, 46, 56, 52, 48, 46, 49, 46, 49, 49, 51, 55, 51, 48, 46, 51, 46, 52, 46, 50]⟩ b [] := ⟨_, rfl⟩
  rw [← hd] at HSC ⊢
  clear hb0 hW0 hd
  go_enter Tryd.func39, Tryd.ntmps39
  go_wp2_with fail
  rw [← HW0.out]
  refine start_ (n := 20) (S := fun w' => w'.cell? ⟨w.heap.size, 2, none⟩ = some (.bool b) ∧ w'.cell? ⟨w.heap.size, 4, none⟩ = some (.int .i64 n) ∧ w'.cell? ⟨w.heap.size, 5, none⟩ = some (.slice A5 ck.length c5) ∧ w'.cell? ⟨w.heap.size, 3, none⟩ = some (.slice A3 v.length c3)) (ds := []) #[nN,nN,nN,nN,nN,nN,nN,nN,nN,nN,nN,nN,nN,nN,nN,nN,nN,nN,nN,nN] (by kernel_rfl) rfl rfl ⟨blk_cell HX0d.out 2, blk_cell HX0d.out 4, blk_cell HX0d.out 5, blk_cell HX0d.out 3⟩ (fun hHeld => ?_)
  refine pure_ (i := 0) (N := some 84) (v := ?_) (a' := ?_) #[yY,nN,nN,nN,nN,nN,nN,nN,nN,nN,nN,nN,nN,nN,nN,nN,nN,nN,nN,nN] rfl rfl (by kernel_rfl) (fun _ _ _ h => h) (Or.inl ⟨by rfl, ?_⟩) ?_ ?_
  rotate_left
  · intro w'
    go_simp
    with_reducible rfl
  rotate_left
  · simp only [Act.put, List.setIfInBounds_toArray, List.set_cons_zero, List.set_cons_succ, i64_w, i32_w]
    rfl
  refine pure_ (i := 3) (N := some 87) (v := ?_) (a' := ?_) #[yY,nN,nN,yY,nN,nN,nN,nN,nN,nN,nN,nN,nN,nN,nN,nN,nN,nN,nN,nN] rfl rfl (by kernel_rfl) (fun _ _ _ h => h) (Or.inl ⟨by rfl, ?_⟩) ?_ ?_
  rotate_left
  · intro w'
    go_simp
    with_reducible rfl
  rotate_left
  · simp only [Act.put, List.setIfInBounds_toArray, List.set_cons_zero, List.set_cons_succ, i64_w, i32_w]
    rfl
  refine take_ (i := 1) (N := some 85) (v := ?_) (a' := ?_) #[yY,yY,nN,yY,nN,nN,nN,nN,nN,nN,nN,nN,nN,nN,nN,nN,nN,nN,nN,nN] rfl rfl (by kernel_rfl) (fun _ _ _ h => h) (Or.inl ⟨by rfl, ?_⟩) hHeld ?_ ?_
  rotate_left
  · rintro w' ⟨s0, s1, s2, s3⟩
    go_simp
    with_reducible rfl
  rotate_left
  · simp only [Act.put, List.setIfInBounds_toArray, List.set_cons_zero, List.set_cons_succ, i64_w, i32_w]
    rfl
  refine take_ (i := 4) (N := some 88) (v := ?_) (a' := ?_) #[yY,yY,nN,yY,yY,nN,nN,nN,nN,nN,nN,nN,nN,nN,nN,nN,nN,nN,nN,nN] rfl rfl (by kernel_rfl) (fun _ _ _ h => h) (Or.inl ⟨by rfl, ?_⟩) hHeld ?_ ?_
  rotate_left
  · rintro w' ⟨s0, s1, s2, s3⟩
    go_simp
    with_reducible rfl
  rotate_left
  · simp only [Act.put, List.setIfInBounds_toArray, List.set_cons_zero, List.set_cons_succ, i64_w, i32_w]
    rfl
  refine pure_ (i := 5) (N := some 89) (v := ?_) (a' := ?_) #[yY,yY,nN,yY,yY,yY,nN,nN,nN,nN,nN,nN,nN,nN,nN,nN,nN,nN,nN,nN] rfl rfl (by kernel_rfl) (fun _ _ _ h => h) (Or.inl ⟨by rfl, ?_⟩) ?_ ?_
  rotate_left
  · intro w'
    go_simp
    with_reducible rfl
  rotate_left
  · simp only [Act.put, List.setIfInBounds_toArray, List.set_cons_zero, List.set_cons_succ, i64_w, i32_w]
    rfl
  refine one_ (i := 2) (N := some 86) #[yY,yY,yY,yY,yY,yY,nN,nN,nN,nN,nN,nN,nN,nN,nN,nN,nN,nN,nN,nN] rfl rfl (by kernel_rfl) (by decide) (fun K hK => ?_)
  refine goes_ Tryd.func74 (by kernel_rfl) rfl #[.string ⟨#[50, 46, 49, 54, 46, 56, 52, 48, 46, 49, 46, 49, 49, 51, 55, 51, 48, 46, 51, 46, 52, 46, 50]⟩, .bool b, .slice none 0 0] (by rfl) rfl rfl (by simp only [List.map_toArray, List.map_cons, List.map_nil]; rfl) ?_
  with_reducible refine (HSC.out).mono ?_
  rintro e W7 h7
  obtain ⟨E3, q3, E4, q4, rfl, hl7, hB7⟩ := h7.open
  refine ⟨_, rfl, ?_⟩
  have HX7 := Lib.hid (blk_below HX0d.out hB7)
  have HR7 := Lib.hid (blk_below HR0d.out hB7)
  have HL7 := Lib.hid hl7
  have HB7 := Lib.hid hB7
  have r0 := blk_cell HR7.out 0
  have r1 := blk_cell HR7.out 1
  have r2 := blk_cell HR7.out 2
  have r3 := blk_cell HR7.out 3
  have r4 := blk_cell HR7.out 4
  have rf0 := blk_frozen HR7.out 0
  have rf1 := blk_frozen HR7.out 1
  have rf2 := blk_frozen HR7.out 2
  have rf3 := blk_frozen HR7.out 3
  have rf4 := blk_frozen HR7.out 4
  clear h7 hl7 hB7
  refine hK.out _ _ ⟨blk_cell HX7.out 2, blk_cell HX7.out 4, blk_cell HX7.out 5, blk_cell HX7.out 3⟩ (fun hHeld => ?_)
  clear hK K
  refine norm_ (a' := ?_) ?_ ?_
  rotate_left
  · show Act.put _ (some 86) _ = _
    simp only [Act.put, List.setIfInBounds_toArray, List.set_cons_zero, List.set_cons_succ, i64_w, i32_w]
    rfl
  refine pure_ (i := 6) (N := some 90) (v := ?_) (a' := ?_) #[yY,yY,yY,yY,yY,yY,yY,nN,nN,nN,nN,nN,nN,nN,nN,nN,nN,nN,nN,nN] rfl rfl (by kernel_rfl) (fun _ _ _ h => h) (Or.inl ⟨by rfl, ?_⟩) ?_ ?_
  rotate_left
  · intro w'
    go_simp
    with_reducible rfl
  rotate_left
  · simp only [Act.put, List.setIfInBounds_toArray, List.set_cons_zero, List.set_cons_succ, i64_w, i32_w]
    rfl
  refine pure_ (i := 7) (N := some 91) (v := undef) (a' := ?_) #[yY,yY,yY,yY,yY,yY,yY,yY,nN,nN,nN,nN,nN,nN,nN,nN,nN,nN,nN,nN] rfl rfl (by kernel_rfl) (fun _ _ _ h => h) (Or.inr ⟨by rfl, rfl⟩) ?_ ?_
  rotate_left
  · simp only [Act.put, List.setIfInBounds_toArray, List.set_cons_zero, List.set_cons_succ, i64_w, i32_w]
    rfl
  refine pure_ (i := 8) (N := some 92) (v := undef) (a' := ?_) #[yY,yY,yY,yY,yY,yY,yY,yY,yY,nN,nN,nN,nN,nN,nN,nN,nN,nN,nN,nN] rfl rfl (by kernel_rfl) (fun _ _ _ h => h) (Or.inr ⟨by rfl, rfl⟩) ?_ ?_
  rotate_left
  · simp only [Act.put, List.setIfInBounds_toArray, List.set_cons_zero, List.set_cons_succ, i64_w, i32_w]
    rfl
  refine pure_ (i := 9) (N := some 93) (v := undef) (a' := ?_) #[yY,yY,yY,yY,yY,yY,yY,yY,yY,yY,nN,nN,nN,nN,nN,nN,nN,nN,nN,nN] rfl rfl (by kernel_rfl) (fun _ _ _ h => h) (Or.inr ⟨by rfl, rfl⟩) ?_ ?_
  rotate_left
  · simp only [Act.put, List.setIfInBounds_toArray, List.set_cons_zero, List.set_cons_succ, i64_w, i32_w]
    rfl
  refine pure_ (i := 10) (N := some 94) (v := undef) (a' := ?_) #[yY,yY,yY,yY,yY,yY,yY,yY,yY,yY,yY,nN,nN,nN,nN,nN,nN,nN,nN,nN] rfl rfl (by kernel_rfl) (fun _ _ _ h => h) (Or.inr ⟨by rfl, rfl⟩) ?_ ?_
  rotate_left
  · simp only [Act.put, List.setIfInBounds_toArray, List.set_cons_zero, List.set_cons_succ, i64_w, i32_w]
    rfl
  refine pure_ (i := 11) (N := some 95) (v := ?_) (a' := ?_) #[yY,yY,yY,yY,yY,yY,yY,yY,yY,yY,yY,yY,nN,nN,nN,nN,nN,nN,nN,nN] rfl rfl (by kernel_rfl) (fun _ _ _ h => h) (Or.inl ⟨by rfl, ?_⟩) ?_ ?_
  rotate_left
  · intro w'
    go_simp
    with_reducible rfl
  rotate_left
  · simp only [Act.put, List.setIfInBounds_toArray, List.set_cons_zero, List.set_cons_succ, i64_w, i32_w]
    rfl
  refine pure_ (i := 12) (N := some 96) (v := ?_) (a' := ?_) #[yY,yY,yY,yY,yY,yY,yY,yY,yY,yY,yY,yY,yY,nN,nN,nN,nN,nN,nN,nN] rfl rfl (by kernel_rfl) (fun _ _ _ h => h) (Or.inl ⟨by rfl, ?_⟩) ?_ ?_
  rotate_left
  · intro w'
    go_simp
    with_reducible rfl
  rotate_left
  · simp only [Act.put, List.setIfInBounds_toArray, List.set_cons_zero, List.set_cons_succ, i64_w, i32_w]
    rfl
  refine pure_ (i := 13) (N := some 97) (v := undef) (a' := ?_) #[yY,yY,yY,yY,yY,yY,yY,yY,yY,yY,yY,yY,yY,yY,nN,nN,nN,nN,nN,nN] rfl rfl (by kernel_rfl) (fun _ _ _ h => h) (Or.inr ⟨by rfl, rfl⟩) ?_ ?_
  rotate_left
  · simp only [Act.put, List.setIfInBounds_toArray, List.set_cons_zero, List.set_cons_succ, i64_w, i32_w]
    rfl
  refine pure_ (i := 14) (N := some 98) (v := undef) (a' := ?_) #[yY,yY,yY,yY,yY,yY,yY,yY,yY,yY,yY,yY,yY,yY,yY,nN,nN,nN,nN,nN] rfl rfl (by kernel_rfl) (fun _ _ _ h => h) (Or.inr ⟨by rfl, rfl⟩) ?_ ?_
  rotate_left
  · simp only [Act.put, List.setIfInBounds_toArray, List.set_cons_zero, List.set_cons_succ, i64_w, i32_w]
    rfl
  refine pure_ (i := 15) (N := some 99) (v := undef) (a' := ?_) #[yY,yY,yY,yY,yY,yY,yY,yY,yY,yY,yY,yY,yY,yY,yY,yY,nN,nN,nN,nN] rfl rfl (by kernel_rfl) (fun _ _ _ h => h) (Or.inr ⟨by rfl, rfl⟩) ?_ ?_
  rotate_left
  · simp only [Act.put, List.setIfInBounds_toArray, List.set_cons_zero, List.set_cons_succ, i64_w, i32_w]
    rfl
  refine pure_ (i := 16) (N := some 100) (v := undef) (a' := ?_) #[yY,yY,yY,yY,yY,yY,yY,yY,yY,yY,yY,yY,yY,yY,yY,yY,yY,nN,nN,nN] rfl rfl (by kernel_rfl) (fun _ _ _ h => h) (Or.inr ⟨by rfl, rfl⟩) ?_ ?_
  rotate_left
  · simp only [Act.put, List.setIfInBounds_toArray, List.set_cons_zero, List.set_cons_succ, i64_w, i32_w]
    rfl
  refine pure_ (i := 17) (N := some 101) (v := ?_) (a' := ?_) #[yY,yY,yY,yY,yY,yY,yY,yY,yY,yY,yY,yY,yY,yY,yY,yY,yY,yY,nN,nN] rfl rfl (by kernel_rfl) (fun _ _ _ h => h) (Or.inl ⟨by rfl, ?_⟩) ?_ ?_
  rotate_left
  · intro w'
    go_simp
    with_reducible rfl
  rotate_left
  · simp only [Act.put, List.setIfInBounds_toArray, List.set_cons_zero, List.set_cons_succ, i64_w, i32_w]
    rfl
  refine one_ (i := 18) (N := none) #[yY,yY,yY,yY,yY,yY,yY,yY,yY,yY,yY,yY,yY,yY,yY,yY,yY,yY,yY,nN] rfl rfl (by kernel_rfl) (by decide) (fun K hK => ?_)
  refine skip_ (w1 := ?_) (by rfl) rfl ?_ ?_
  rotate_left
  · go_simp
    rfl
  refine hK.out _ _ ⟨blk_cell (far5 HX7.out (by omega) _ _ _ _ _) 2, blk_cell (far5 HX7.out (by omega) _ _ _ _ _) 4, blk_cell (far5 HX7.out (by omega) _ _ _ _ _) 5, blk_cell (far5 HX7.out (by omega) _ _ _ _ _) 3⟩ (fun hHeld => ?_)
  clear hK K
  refine pure_ (i := 19) (N := some 3) (v := ?_) (a' := ?_) #[yY,yY,yY,yY,yY,yY,yY,yY,yY,yY,yY,yY,yY,yY,yY,yY,yY,yY,yY,yY] rfl rfl (by kernel_rfl) (fun _ _ _ h => h) (Or.inl ⟨by rfl, ?_⟩) ?_ ?_
  rotate_left
  · intro w'
    go_simp
    with_reducible rfl
  rotate_left
  · simp only [Act.put, List.setIfInBounds_toArray, List.set_cons_zero, List.set_cons_succ, i64_w, i32_w]
    rfl
  refine done_ (by kernel_rfl) ?_
  have HS0 : Hid (w.heap.size + 1 < W0.drew.heap.size) := Lib.hid (blk_lt HR0d.out)
  try go_wp2
  try simp only [Exit.inBlock, Exit.then]
  exact bodyPost_ret (results_ct (p := 2) (u := 3) rfl _ _ _ _ _ _ _ rfl (set5 HR7.out (.int .i64 d.f0) (.int .i64 d.f1) (.bool d.f2) (.slice E3 d.f3.length q3) (.slice E4 d.f4.length q4)) Tryd.underlying33 rfl size33) rfl
    ⟨E3, q3, E4, q4, rfl, lies5 HL7.out HS0.out (by have := HS0.out; omega) _ _ _ _ _, below5 (HB0.out.drew.trans (HB7.out.mono HB0.out.drew.size)) (Nat.le_succ _) _ _ _ _ _⟩
set_option maxHeartbeats 3200000 in
set_option maxRecDepth 100000 in
theorem lctl2b (o : ByteArray) (b : Bool) (v : List Int) (n : Int) (ck : List Int) (A3 : Option Addr) (c3 : Nat) (A5 : Option Addr) (c5 : Nat) (w : World) (h4 : (n == 0) = true) (h5 : ((ck.length : Int) == 0) = false) :
    Calls Tryd.prog 39 #[.agg #[.int .i64 2, .string o, .bool b, .slice A3 v.length c3, .int .i64 n, .slice A5 ck.length c5]] w (LC w (sCtl ⟨#[50, 46, 49, 54, 46, 56, 52, 48, 46, 49, 46, 49, 49, 51, 55, 51, 48, 46, 51, 46, 52, 46, 50]⟩ b []) false) := by
  obtain ⟨W0, hW0⟩ : ∃ W0, W0 = (w.alloc (.cells #[.int .i64 2, .string o, .bool b, .slice A3 v.length c3, .int .i64 n, .slice A5 ck.length c5] 79)).alloc (.cells #[.int .i64 0, .int .i64 0, .bool false, .slice none 0 0, .slice none 0 0] 33) := ⟨_, rfl⟩
  have hb0 : Below w.heap.size w W0 := by rw [hW0]; exact below_alloc (below_alloc (Below.refl _ _) _) _
  have HX0 : Hid (W0.heap[w.heap.size]? = some (.cells #[.int .i64 2, .string o, .bool b, .slice A3 v.length c3, .int .i64 n, .slice A5 ck.length c5] 79 (0, 0))) := Lib.hid (by rw [hW0]; exact blk_alloc (blk_new _ _) _)
  have HR0 : Hid (W0.heap[w.heap.size + 1]? = some (.cells #[.int .i64 0, .int .i64 0, .bool false, .slice none 0 0, .slice none 0 0] 33 (0, 0))) := Lib.hid (by rw [hW0]; exact two_new _ _ _ _ _)
  have HX0d : Hid (W0.drew.heap[w.heap.size]? = some (.cells #[.int .i64 2, .string o, .bool b, .slice A3 v.length c3, .int .i64 n, .slice A5 ck.length c5] 79 (0, 0))) := Lib.hid HX0.out
  have HR0d : Hid (W0.drew.heap[w.heap.size + 1]? = some (.cells #[.int .i64 0, .int .i64 0, .bool false, .slice none 0 0, .slice none 0 0] 33 (0, 0))) := Lib.hid HR0.out
  have HSC : Hid (Calls Tryd.prog 74 #[.string ⟨#[50, 46, 49, 54, 46, 56, 52, 48, 46, 49, 46, 49, 49, 51, 55, 51, 48, 46, 51, 46, 52, 46, 50]⟩, .bool b, .slice none 0 0] W0.drew (Nw W0.drew.heap.size W0.drew (sCtl ⟨#[50, 46, 49, 54, 46, 56, 52, 48, 46, 49, 46, 49, 49, 51, 55, 51, 48, 46, 51, 46, 52, 46, 50]⟩ b []))) := Lib.hid (sCtl_nw _ b [] none 0 W0.drew (Kd.C_nil _ _) (by decide) (fun s hs => by cases hs) (by decide))
  have HB0 := Lib.hid hb0
  have HW0 := Lib.hid hW0
  obtain ⟨d, hd⟩ : ∃ d, d = sCtl ⟨#[50, 46, 49, 54, 46, 56, 52, 48, 46, 49, 46, 49, 49, 51, 55, 51, 48, 46, 51, 46, 52, 46, 50]⟩ b [] := ⟨_, rfl⟩
  rw [← hd] at HSC ⊢
  clear hb0 hW0 hd
  go_enter Tryd.func39, Tryd.ntmps39
  go_wp2_with fail
  rw [← HW0.out]
  refine start_ (n := 20) (S := fun w' => w'.cell? ⟨w.heap.size, 2, none⟩ = some (.bool b) ∧ w'.cell? ⟨w.heap.size, 4, none⟩ = some (.int .i64 n) ∧ w'.cell? ⟨w.heap.size, 5, none⟩ = some (.slice A5 ck.length c5) ∧ w'.cell? ⟨w.heap.size, 3, none⟩ = some (.slice A3 v.length c3)) (ds := []) #[nN,nN,nN,nN,nN,nN,nN,nN,nN,nN,nN,nN,nN,nN,nN,nN,nN,nN,nN,nN] (by kernel_rfl) rfl rfl ⟨blk_cell HX0d.out 2, blk_cell HX0d.out 4, blk_cell HX0d.out 5, blk_cell HX0d.out 3⟩ (fun hHeld => ?_)
  refine pure_ (i := 0) (N := some 84) (v := ?_) (a' := ?_) #[yY,nN,nN,nN,nN,nN,nN,nN,nN,nN,nN,nN,nN,nN,nN,nN,nN,nN,nN,nN] rfl rfl (by kernel_rfl) (fun _ _ _ h => h) (Or.inl ⟨by rfl, ?_⟩) ?_ ?_
  rotate_left
  · intro w'
    go_simp
    with_reducible rfl
  rotate_left
  · simp only [Act.put, List.setIfInBounds_toArray, List.set_cons_zero, List.set_cons_succ, i64_w, i32_w]
    rfl
  refine pure_ (i := 3) (N := some 87) (v := ?_) (a' := ?_) #[yY,nN,nN,yY,nN,nN,nN,nN,nN,nN,nN,nN,nN,nN,nN,nN,nN,nN,nN,nN] rfl rfl (by kernel_rfl) (fun _ _ _ h => h) (Or.inl ⟨by rfl, ?_⟩) ?_ ?_
  rotate_left
  · intro w'
    go_simp
    with_reducible rfl
  rotate_left
  · simp only [Act.put, List.setIfInBounds_toArray, List.set_cons_zero, List.set_cons_succ, i64_w, i32_w]
    rfl
  refine take_ (i := 1) (N := some 85) (v := ?_) (a' := ?_) #[yY,yY,nN,yY,nN,nN,nN,nN,nN,nN,nN,nN,nN,nN,nN,nN,nN,nN,nN,nN] rfl rfl (by kernel_rfl) (fun _ _ _ h => h) (Or.inl ⟨by rfl, ?_⟩) hHeld ?_ ?_
  rotate_left
  · rintro w' ⟨s0, s1, s2, s3⟩
    go_simp
    with_reducible rfl
  rotate_left
  · simp only [Act.put, List.setIfInBounds_toArray, List.set_cons_zero, List.set_cons_succ, i64_w, i32_w]
    rfl
  refine take_ (i := 4) (N := some 88) (v := ?_) (a' := ?_) #[yY,yY,nN,yY,yY,nN,nN,nN,nN,nN,nN,nN,nN,nN,nN,nN,nN,nN,nN,nN] rfl rfl (by kernel_rfl) (fun _ _ _ h => h) (Or.inl ⟨by rfl, ?_⟩) hHeld ?_ ?_
  rotate_left
  · rintro w' ⟨s0, s1, s2, s3⟩
    go_simp
    with_reducible rfl
  rotate_left
  · simp only [Act.put, List.setIfInBounds_toArray, List.set_cons_zero, List.set_cons_succ, i64_w, i32_w]
    rfl
  refine pure_ (i := 5) (N := some 89) (v := ?_) (a' := ?_) #[yY,yY,nN,yY,yY,yY,nN,nN,nN,nN,nN,nN,nN,nN,nN,nN,nN,nN,nN,nN] rfl rfl (by kernel_rfl) (fun _ _ _ h => h) (Or.inl ⟨by rfl, ?_⟩) ?_ ?_
  rotate_left
  · intro w'
    go_simp
    with_reducible rfl
  rotate_left
  · simp only [Act.put, List.setIfInBounds_toArray, List.set_cons_zero, List.set_cons_succ, i64_w, i32_w]
    rfl
  refine one_ (i := 2) (N := some 86) #[yY,yY,yY,yY,yY,yY,nN,nN,nN,nN,nN,nN,nN,nN,nN,nN,nN,nN,nN,nN] rfl rfl (by kernel_rfl) (by decide) (fun K hK => ?_)
  refine goes_ Tryd.func74 (by kernel_rfl) rfl #[.string ⟨#[50, 46, 49, 54, 46, 56, 52, 48, 46, 49, 46, 49, 49, 51, 55, 51, 48, 46, 51, 46, 52, 46, 50]⟩, .bool b, .slice none 0 0] (by rfl) rfl rfl (by simp only [List.map_toArray, List.map_cons, List.map_nil]; rfl) ?_
  with_reducible refine (HSC.out).mono ?_
  rintro e W7 h7
  obtain ⟨E3, q3, E4, q4, rfl, hl7, hB7⟩ := h7.open
  refine ⟨_, rfl, ?_⟩
  have HX7 := Lib.hid (blk_below HX0d.out hB7)
  have HR7 := Lib.hid (blk_below HR0d.out hB7)
  have HL7 := Lib.hid hl7
  have HB7 := Lib.hid hB7
  have r0 := blk_cell HR7.out 0
  have r1 := blk_cell HR7.out 1
  have r2 := blk_cell HR7.out 2
  have r3 := blk_cell HR7.out 3
  have r4 := blk_cell HR7.out 4
  have rf0 := blk_frozen HR7.out 0
  have rf1 := blk_frozen HR7.out 1
  have rf2 := blk_frozen HR7.out 2
  have rf3 := blk_frozen HR7.out 3
  have rf4 := blk_frozen HR7.out 4
  clear h7 hl7 hB7
  refine hK.out _ _ ⟨blk_cell HX7.out 2, blk_cell HX7.out 4, blk_cell HX7.out 5, blk_cell HX7.out 3⟩ (fun hHeld => ?_)
  clear hK K
  refine norm_ (a' := ?_) ?_ ?_
  rotate_left
  · show Act.put _ (some 86) _ = _
    simp only [Act.put, List.setIfInBounds_toArray, List.set_cons_zero, List.set_cons_succ, i64_w, i32_w]
    rfl
  refine pure_ (i := 6) (N := some 90) (v := ?_) (a' := ?_) #[yY,yY,yY,yY,yY,yY,yY,nN,nN,nN,nN,nN,nN,nN,nN,nN,nN,nN,nN,nN] rfl rfl (by kernel_rfl) (fun _ _ _ h => h) (Or.inl ⟨by rfl, ?_⟩) ?_ ?_
  rotate_left
  · intro w'
    go_simp
    with_reducible rfl
  rotate_left
  · simp only [Act.put, List.setIfInBounds_toArray, List.set_cons_zero, List.set_cons_succ, i64_w, i32_w]
    rfl
  refine pure_ (i := 7) (N := some 91) (v := ?_) (a' := ?_) #[yY,yY,yY,yY,yY,yY,yY,yY,nN,nN,nN,nN,nN,nN,nN,nN,nN,nN,nN,nN] rfl rfl (by kernel_rfl) (fun _ _ _ h => h) (Or.inl ⟨by rfl, ?_⟩) ?_ ?_
  rotate_left
  · intro w'
    go_simp
    with_reducible rfl
  rotate_left
  · simp only [Act.put, List.setIfInBounds_toArray, List.set_cons_zero, List.set_cons_succ, i64_w, i32_w]
    rfl
  refine take_ (i := 8) (N := some 92) (v := ?_) (a' := ?_) #[yY,yY,yY,yY,yY,yY,yY,yY,yY,nN,nN,nN,nN,nN,nN,nN,nN,nN,nN,nN] rfl rfl (by kernel_rfl) (fun _ _ _ h => h) (Or.inl ⟨by rfl, ?_⟩) hHeld ?_ ?_
  rotate_left
  · rintro w' ⟨s0, s1, s2, s3⟩
    go_simp
    with_reducible rfl
  rotate_left
  · simp only [Act.put, List.setIfInBounds_toArray, List.set_cons_zero, List.set_cons_succ, i64_w, i32_w]
    rfl
  refine pure_ (i := 9) (N := some 93) (v := ?_) (a' := ?_) #[yY,yY,yY,yY,yY,yY,yY,yY,yY,yY,nN,nN,nN,nN,nN,nN,nN,nN,nN,nN] rfl rfl (by kernel_rfl) (fun _ _ _ h => h) (Or.inl ⟨by rfl, ?_⟩) ?_ ?_
  rotate_left
  · intro w'
    go_simp
    with_reducible rfl
  rotate_left
  · simp only [Act.put, List.setIfInBounds_toArray, List.set_cons_zero, List.set_cons_succ, i64_w, i32_w]
    rfl
  refine pure_ (i := 10) (N := some 94) (v := ?_) (a' := ?_) #[yY,yY,yY,yY,yY,yY,yY,yY,yY,yY,yY,nN,nN,nN,nN,nN,nN,nN,nN,nN] rfl rfl (by kernel_rfl) (fun _ _ _ h => h) (Or.inl ⟨by rfl, ?_⟩) ?_ ?_
  rotate_left
  · intro w'
    go_simp
    with_reducible rfl
  rotate_left
  · simp only [Act.put, List.setIfInBounds_toArray, List.set_cons_zero, List.set_cons_succ, i64_w, i32_w]
    rfl
  refine pure_ (i := 11) (N := some 95) (v := ?_) (a' := ?_) #[yY,yY,yY,yY,yY,yY,yY,yY,yY,yY,yY,yY,nN,nN,nN,nN,nN,nN,nN,nN] rfl rfl (by kernel_rfl) (fun _ _ _ h => h) (Or.inl ⟨by rfl, ?_⟩) ?_ ?_
  rotate_left
  · intro w'
    go_simp
    with_reducible rfl
  rotate_left
  · simp only [Act.put, List.setIfInBounds_toArray, List.set_cons_zero, List.set_cons_succ, i64_w, i32_w]
    rfl
  refine pure_ (i := 12) (N := some 96) (v := ?_) (a' := ?_) #[yY,yY,yY,yY,yY,yY,yY,yY,yY,yY,yY,yY,yY,nN,nN,nN,nN,nN,nN,nN] rfl rfl (by kernel_rfl) (fun _ _ _ h => h) (Or.inl ⟨by rfl, ?_⟩) ?_ ?_
  rotate_left
  · intro w'
    go_simp
    with_reducible rfl
  rotate_left
  · simp only [Act.put, List.setIfInBounds_toArray, List.set_cons_zero, List.set_cons_succ, i64_w, i32_w]
    rfl
  refine pure_ (i := 13) (N := some 97) (v := undef) (a' := ?_) #[yY,yY,yY,yY,yY,yY,yY,yY,yY,yY,yY,yY,yY,yY,nN,nN,nN,nN,nN,nN] rfl rfl (by kernel_rfl) (fun _ _ _ h => h) (Or.inr ⟨by rfl, rfl⟩) ?_ ?_
  rotate_left
  · simp only [Act.put, List.setIfInBounds_toArray, List.set_cons_zero, List.set_cons_succ, i64_w, i32_w]
    rfl
  refine pure_ (i := 14) (N := some 98) (v := undef) (a' := ?_) #[yY,yY,yY,yY,yY,yY,yY,yY,yY,yY,yY,yY,yY,yY,yY,nN,nN,nN,nN,nN] rfl rfl (by kernel_rfl) (fun _ _ _ h => h) (Or.inr ⟨by rfl, rfl⟩) ?_ ?_
  rotate_left
  · simp only [Act.put, List.setIfInBounds_toArray, List.set_cons_zero, List.set_cons_succ, i64_w, i32_w]
    rfl
  refine pure_ (i := 15) (N := some 99) (v := undef) (a' := ?_) #[yY,yY,yY,yY,yY,yY,yY,yY,yY,yY,yY,yY,yY,yY,yY,yY,nN,nN,nN,nN] rfl rfl (by kernel_rfl) (fun _ _ _ h => h) (Or.inr ⟨by rfl, rfl⟩) ?_ ?_
  rotate_left
  · simp only [Act.put, List.setIfInBounds_toArray, List.set_cons_zero, List.set_cons_succ, i64_w, i32_w]
    rfl
  refine pure_ (i := 16) (N := some 100) (v := undef) (a' := ?_) #[yY,yY,yY,yY,yY,yY,yY,yY,yY,yY,yY,yY,yY,yY,yY,yY,yY,nN,nN,nN] rfl rfl (by kernel_rfl) (fun _ _ _ h => h) (Or.inr ⟨by rfl, rfl⟩) ?_ ?_
  rotate_left
  · simp only [Act.put, List.setIfInBounds_toArray, List.set_cons_zero, List.set_cons_succ, i64_w, i32_w]
    rfl
  refine pure_ (i := 17) (N := some 101) (v := ?_) (a' := ?_) #[yY,yY,yY,yY,yY,yY,yY,yY,yY,yY,yY,yY,yY,yY,yY,yY,yY,yY,nN,nN] rfl rfl (by kernel_rfl) (fun _ _ _ h => h) (Or.inl ⟨by rfl, ?_⟩) ?_ ?_
  rotate_left
  · intro w'
    go_simp
    with_reducible rfl
  rotate_left
  · simp only [Act.put, List.setIfInBounds_toArray, List.set_cons_zero, List.set_cons_succ, i64_w, i32_w]
    rfl
  refine one_ (i := 18) (N := none) #[yY,yY,yY,yY,yY,yY,yY,yY,yY,yY,yY,yY,yY,yY,yY,yY,yY,yY,yY,nN] rfl rfl (by kernel_rfl) (by decide) (fun K hK => ?_)
  refine skip_ (w1 := ?_) (by rfl) rfl ?_ ?_
  rotate_left
  · go_simp
    rfl
  refine hK.out _ _ ⟨blk_cell (far5 HX7.out (by omega) _ _ _ _ _) 2, blk_cell (far5 HX7.out (by omega) _ _ _ _ _) 4, blk_cell (far5 HX7.out (by omega) _ _ _ _ _) 5, blk_cell (far5 HX7.out (by omega) _ _ _ _ _) 3⟩ (fun hHeld => ?_)
  clear hK K
  refine pure_ (i := 19) (N := some 3) (v := ?_) (a' := ?_) #[yY,yY,yY,yY,yY,yY,yY,yY,yY,yY,yY,yY,yY,yY,yY,yY,yY,yY,yY,yY] rfl rfl (by kernel_rfl) (fun _ _ _ h => h) (Or.inl ⟨by rfl, ?_⟩) ?_ ?_
  rotate_left
  · intro w'
    go_simp
    with_reducible rfl
  rotate_left
  · simp only [Act.put, List.setIfInBounds_toArray, List.set_cons_zero, List.set_cons_succ, i64_w, i32_w]
    rfl
  refine done_ (by kernel_rfl) ?_
  have HS0 : Hid (w.heap.size + 1 < W0.drew.heap.size) := Lib.hid (blk_lt HR0d.out)
  try go_wp2
  try simp only [Exit.inBlock, Exit.then]
  exact bodyPost_ret (results_ct (p := 2) (u := 3) rfl _ _ _ _ _ _ _ rfl (set5 HR7.out (.int .i64 d.f0) (.int .i64 d.f1) (.bool d.f2) (.slice E3 d.f3.length q3) (.slice E4 d.f4.length q4)) Tryd.underlying33 rfl size33) rfl
    ⟨E3, q3, E4, q4, rfl, lies5 HL7.out HS0.out (by have := HS0.out; omega) _ _ _ _ _, below5 (HB0.out.drew.trans (HB7.out.mono HB0.out.drew.size)) (Nat.le_succ _) _ _ _ _ _⟩
set_option maxHeartbeats 3200000 in
set_option maxRecDepth 100000 in
theorem lctl2c (o : ByteArray) (b : Bool) (v : List Int) (n : Int) (ck : List Int) (A3 : Option Addr) (c3 : Nat) (A5 : Option Addr) (c5 : Nat) (w : World) (h4 : (n == 0) = true) (h5 : ((ck.length : Int) == 0) = true) (h6 : ((v.length : Int) == 0) = false) :
    Calls Tryd.prog 39 #[.agg #[.int .i64 2, .string o, .bool b, .slice A3 v.length c3, .int .i64 n, .slice A5 ck.length c5]] w (LC w (sCtl ⟨#[50, 46, 49, 54, 46, 56, 52, 48, 46, 49, 46, 49, 49, 51, 55, 51, 48, 46, 51, 46, 52, 46, 50]⟩ b []) false) := by
  obtain ⟨W0, hW0⟩ : ∃ W0, W0 = (w.alloc (.cells #[.int .i64 2, .string o, .bool b, .slice A3 v.length c3, .int .i64 n, .slice A5 ck.length c5] 79)).alloc (.cells #[.int .i64 0, .int .i64 0, .bool false, .slice none 0 0, .slice none 0 0] 33) := ⟨_, rfl⟩
  have hb0 : Below w.heap.size w W0 := by rw [hW0]; exact below_alloc (below_alloc (Below.refl _ _) _) _
  have HX0 : Hid (W0.heap[w.heap.size]? = some (.cells #[.int .i64 2, .string o, .bool b, .slice A3 v.length c3, .int .i64 n, .slice A5 ck.length c5] 79 (0, 0))) := Lib.hid (by rw [hW0]; exact blk_alloc (blk_new _ _) _)
  have HR0 : Hid (W0.heap[w.heap.size + 1]? = some (.cells #[.int .i64 0, .int .i64 0, .bool false, .slice none 0 0, .slice none 0 0] 33 (0, 0))) := Lib.hid (by rw [hW0]; exact two_new _ _ _ _ _)
  have HX0d : Hid (W0.drew.heap[w.heap.size]? = some (.cells #[.int .i64 2, .string o, .bool b, .slice A3 v.length c3, .int .i64 n, .slice A5 ck.length c5] 79 (0, 0))) := Lib.hid HX0.out
  have HR0d : Hid (W0.drew.heap[w.heap.size + 1]? = some (.cells #[.int .i64 0, .int .i64 0, .bool false, .slice none 0 0, .slice none 0 0] 33 (0, 0))) := Lib.hid HR0.out
  have HSC : Hid (Calls Tryd.prog 74 #[.string ⟨#[50, 46, 49, 54, 46, 56, 52, 48, 46, 49, 46, 49, 49, 51, 55, 51, 48, 46, 51, 46, 52, 46, 50]⟩, .bool b, .slice none 0 0] W0.drew (Nw W0.drew.heap.size W0.drew (sCtl ⟨#[50, 46, 49, 54, 46, 56, 52, 48, 46, 49, 46, 49, 49, 51, 55, 51, 48, 46, 51, 46, 52, 46, 50]⟩ b []))) := Lib.hid (sCtl_nw _ b [] none 0 W0.drew (Kd.C_nil _ _) (by decide) (fun s hs => by cases hs) (by decide))
  have HB0 := Lib.hid hb0
  have HW0 := Lib.hid hW0
  obtain ⟨d, hd⟩ : ∃ d, d = sCtl ⟨#[50, 46, 49, 54, 46, 56, 52, 48, 46, 49, 46, 49, 49, 51, 55, 51, 48, 46, 51, 46, 52, 46, 50]⟩ b [] := ⟨_, rfl⟩
  rw [← hd] at HSC ⊢
  clear hb0 hW0 hd
  go_enter Tryd.func39, Tryd.ntmps39
  go_wp2_with fail
  rw [← HW0.out]
  refine start_ (n := 20) (S := fun w' => w'.cell? ⟨w.heap.size, 2, none⟩ = some (.bool b) ∧ w'.cell? ⟨w.heap.size, 4, none⟩ = some (.int .i64 n) ∧ w'.cell? ⟨w.heap.size, 5, none⟩ = some (.slice A5 ck.length c5) ∧ w'.cell? ⟨w.heap.size, 3, none⟩ = some (.slice A3 v.length c3)) (ds := []) #[nN,nN,nN,nN,nN,nN,nN,nN,nN,nN,nN,nN,nN,nN,nN,nN,nN,nN,nN,nN] (by kernel_rfl) rfl rfl ⟨blk_cell HX0d.out 2, blk_cell HX0d.out 4, blk_cell HX0d.out 5, blk_cell HX0d.out 3⟩ (fun hHeld => ?_)
  refine pure_ (i := 0) (N := some 84) (v := ?_) (a' := ?_) #[yY,nN,nN,nN,nN,nN,nN,nN,nN,nN,nN,nN,nN,nN,nN,nN,nN,nN,nN,nN] rfl rfl (by kernel_rfl) (fun _ _ _ h => h) (Or.inl ⟨by rfl, ?_⟩) ?_ ?_
  rotate_left
  · intro w'
    go_simp
    with_reducible rfl
  rotate_left
  · simp only [Act.put, List.setIfInBounds_toArray, List.set_cons_zero, List.set_cons_succ, i64_w, i32_w]
    rfl
  refine pure_ (i := 3) (N := some 87) (v := ?_) (a' := ?_) #[yY,nN,nN,yY,nN,nN,nN,nN,nN,nN,nN,nN,nN,nN,nN,nN,nN,nN,nN,nN] rfl rfl (by kernel_rfl) (fun _ _ _ h => h) (Or.inl ⟨by rfl, ?_⟩) ?_ ?_
  rotate_left
  · intro w'
    go_simp
    with_reducible rfl
  rotate_left
  · simp only [Act.put, List.setIfInBounds_toArray, List.set_cons_zero, List.set_cons_succ, i64_w, i32_w]
    rfl
  refine take_ (i := 1) (N := some 85) (v := ?_) (a' := ?_) #[yY,yY,nN,yY,nN,nN,nN,nN,nN,nN,nN,nN,nN,nN,nN,nN,nN,nN,nN,nN] rfl rfl (by kernel_rfl) (fun _ _ _ h => h) (Or.inl ⟨by rfl, ?_⟩) hHeld ?_ ?_
  rotate_left
  · rintro w' ⟨s0, s1, s2, s3⟩
    go_simp
    with_reducible rfl
  rotate_left
  · simp only [Act.put, List.setIfInBounds_toArray, List.set_cons_zero, List.set_cons_succ, i64_w, i32_w]
    rfl
  refine take_ (i := 4) (N := some 88) (v := ?_) (a' := ?_) #[yY,yY,nN,yY,yY,nN,nN,nN,nN,nN,nN,nN,nN,nN,nN,nN,nN,nN,nN,nN] rfl rfl (by kernel_rfl) (fun _ _ _ h => h) (Or.inl ⟨by rfl, ?_⟩) hHeld ?_ ?_
  rotate_left
  · rintro w' ⟨s0, s1, s2, s3⟩
    go_simp
    with_reducible rfl
  rotate_left
  · simp only [Act.put, List.setIfInBounds_toArray, List.set_cons_zero, List.set_cons_succ, i64_w, i32_w]
    rfl
  refine pure_ (i := 5) (N := some 89) (v := ?_) (a' := ?_) #[yY,yY,nN,yY,yY,yY,nN,nN,nN,nN,nN,nN,nN,nN,nN,nN,nN,nN,nN,nN] rfl rfl (by kernel_rfl) (fun _ _ _ h => h) (Or.inl ⟨by rfl, ?_⟩) ?_ ?_
  rotate_left
  · intro w'
    go_simp
    with_reducible rfl
  rotate_left
  · simp only [Act.put, List.setIfInBounds_toArray, List.set_cons_zero, List.set_cons_succ, i64_w, i32_w]
    rfl
  refine one_ (i := 2) (N := some 86) #[yY,yY,yY,yY,yY,yY,nN,nN,nN,nN,nN,nN,nN,nN,nN,nN,nN,nN,nN,nN] rfl rfl (by kernel_rfl) (by decide) (fun K hK => ?_)
  refine goes_ Tryd.func74 (by kernel_rfl) rfl #[.string ⟨#[50, 46, 49, 54, 46, 56, 52, 48, 46, 49, 46, 49, 49, 51, 55, 51, 48, 46, 51, 46, 52, 46, 50]⟩, .bool b, .slice none 0 0] (by rfl) rfl rfl (by simp only [List.map_toArray, List.map_cons, List.map_nil]; rfl) ?_
  with_reducible refine (HSC.out).mono ?_
  rintro e W7 h7
  obtain ⟨E3, q3, E4, q4, rfl, hl7, hB7⟩ := h7.open
  refine ⟨_, rfl, ?_⟩
  have HX7 := Lib.hid (blk_below HX0d.out hB7)
  have HR7 := Lib.hid (blk_below HR0d.out hB7)
  have HL7 := Lib.hid hl7
  have HB7 := Lib.hid hB7
  have r0 := blk_cell HR7.out 0
  have r1 := blk_cell HR7.out 1
  have r2 := blk_cell HR7.out 2
  have r3 := blk_cell HR7.out 3
  have r4 := blk_cell HR7.out 4
  have rf0 := blk_frozen HR7.out 0
  have rf1 := blk_frozen HR7.out 1
  have rf2 := blk_frozen HR7.out 2
  have rf3 := blk_frozen HR7.out 3
  have rf4 := blk_frozen HR7.out 4
  clear h7 hl7 hB7
  refine hK.out _ _ ⟨blk_cell HX7.out 2, blk_cell HX7.out 4, blk_cell HX7.out 5, blk_cell HX7.out 3⟩ (fun hHeld => ?_)
  clear hK K
  refine norm_ (a' := ?_) ?_ ?_
  rotate_left
  · show Act.put _ (some 86) _ = _
    simp only [Act.put, List.setIfInBounds_toArray, List.set_cons_zero, List.set_cons_succ, i64_w, i32_w]
    rfl
  refine pure_ (i := 6) (N := some 90) (v := ?_) (a' := ?_) #[yY,yY,yY,yY,yY,yY,yY,nN,nN,nN,nN,nN,nN,nN,nN,nN,nN,nN,nN,nN] rfl rfl (by kernel_rfl) (fun _ _ _ h => h) (Or.inl ⟨by rfl, ?_⟩) ?_ ?_
  rotate_left
  · intro w'
    go_simp
    with_reducible rfl
  rotate_left
  · simp only [Act.put, List.setIfInBounds_toArray, List.set_cons_zero, List.set_cons_succ, i64_w, i32_w]
    rfl
  refine pure_ (i := 7) (N := some 91) (v := ?_) (a' := ?_) #[yY,yY,yY,yY,yY,yY,yY,yY,nN,nN,nN,nN,nN,nN,nN,nN,nN,nN,nN,nN] rfl rfl (by kernel_rfl) (fun _ _ _ h => h) (Or.inl ⟨by rfl, ?_⟩) ?_ ?_
  rotate_left
  · intro w'
    go_simp
    with_reducible rfl
  rotate_left
  · simp only [Act.put, List.setIfInBounds_toArray, List.set_cons_zero, List.set_cons_succ, i64_w, i32_w]
    rfl
  refine take_ (i := 8) (N := some 92) (v := ?_) (a' := ?_) #[yY,yY,yY,yY,yY,yY,yY,yY,yY,nN,nN,nN,nN,nN,nN,nN,nN,nN,nN,nN] rfl rfl (by kernel_rfl) (fun _ _ _ h => h) (Or.inl ⟨by rfl, ?_⟩) hHeld ?_ ?_
  rotate_left
  · rintro w' ⟨s0, s1, s2, s3⟩
    go_simp
    with_reducible rfl
  rotate_left
  · simp only [Act.put, List.setIfInBounds_toArray, List.set_cons_zero, List.set_cons_succ, i64_w, i32_w]
    rfl
  refine pure_ (i := 9) (N := some 93) (v := ?_) (a' := ?_) #[yY,yY,yY,yY,yY,yY,yY,yY,yY,yY,nN,nN,nN,nN,nN,nN,nN,nN,nN,nN] rfl rfl (by kernel_rfl) (fun _ _ _ h => h) (Or.inl ⟨by rfl, ?_⟩) ?_ ?_
  rotate_left
  · intro w'
    go_simp
    with_reducible rfl
  rotate_left
  · simp only [Act.put, List.setIfInBounds_toArray, List.set_cons_zero, List.set_cons_succ, i64_w, i32_w]
    rfl
  refine pure_ (i := 10) (N := some 94) (v := ?_) (a' := ?_) #[yY,yY,yY,yY,yY,yY,yY,yY,yY,yY,yY,nN,nN,nN,nN,nN,nN,nN,nN,nN] rfl rfl (by kernel_rfl) (fun _ _ _ h => h) (Or.inl ⟨by rfl, ?_⟩) ?_ ?_
  rotate_left
  · intro w'
    go_simp
    with_reducible rfl
  rotate_left
  · simp only [Act.put, List.setIfInBounds_toArray, List.set_cons_zero, List.set_cons_succ, i64_w, i32_w]
    rfl
  refine pure_ (i := 11) (N := some 95) (v := ?_) (a' := ?_) #[yY,yY,yY,yY,yY,yY,yY,yY,yY,yY,yY,yY,nN,nN,nN,nN,nN,nN,nN,nN] rfl rfl (by kernel_rfl) (fun _ _ _ h => h) (Or.inl ⟨by rfl, ?_⟩) ?_ ?_
  rotate_left
  · intro w'
    go_simp
    with_reducible rfl
  rotate_left
  · simp only [Act.put, List.setIfInBounds_toArray, List.set_cons_zero, List.set_cons_succ, i64_w, i32_w]
    rfl
  refine pure_ (i := 12) (N := some 96) (v := ?_) (a' := ?_) #[yY,yY,yY,yY,yY,yY,yY,yY,yY,yY,yY,yY,yY,nN,nN,nN,nN,nN,nN,nN] rfl rfl (by kernel_rfl) (fun _ _ _ h => h) (Or.inl ⟨by rfl, ?_⟩) ?_ ?_
  rotate_left
  · intro w'
    go_simp
    with_reducible rfl
  rotate_left
  · simp only [Act.put, List.setIfInBounds_toArray, List.set_cons_zero, List.set_cons_succ, i64_w, i32_w]
    rfl
  refine pure_ (i := 13) (N := some 97) (v := ?_) (a' := ?_) #[yY,yY,yY,yY,yY,yY,yY,yY,yY,yY,yY,yY,yY,yY,nN,nN,nN,nN,nN,nN] rfl rfl (by kernel_rfl) (fun _ _ _ h => h) (Or.inl ⟨by rfl, ?_⟩) ?_ ?_
  rotate_left
  · intro w'
    go_simp
    with_reducible rfl
  rotate_left
  · simp only [Act.put, List.setIfInBounds_toArray, List.set_cons_zero, List.set_cons_succ, i64_w, i32_w]
    rfl
  refine take_ (i := 14) (N := some 98) (v := ?_) (a' := ?_) #[yY,yY,yY,yY,yY,yY,yY,yY,yY,yY,yY,yY,yY,yY,yY,nN,nN,nN,nN,nN] rfl rfl (by kernel_rfl) (fun _ _ _ h => h) (Or.inl ⟨by rfl, ?_⟩) hHeld ?_ ?_
  rotate_left
  · rintro w' ⟨s0, s1, s2, s3⟩
    go_simp
    with_reducible rfl
  rotate_left
  · simp only [Act.put, List.setIfInBounds_toArray, List.set_cons_zero, List.set_cons_succ, i64_w, i32_w]
    rfl
  refine pure_ (i := 15) (N := some 99) (v := ?_) (a' := ?_) #[yY,yY,yY,yY,yY,yY,yY,yY,yY,yY,yY,yY,yY,yY,yY,yY,nN,nN,nN,nN] rfl rfl (by kernel_rfl) (fun _ _ _ h => h) (Or.inl ⟨by rfl, ?_⟩) ?_ ?_
  rotate_left
  · intro w'
    go_simp
    with_reducible rfl
  rotate_left
  · simp only [Act.put, List.setIfInBounds_toArray, List.set_cons_zero, List.set_cons_succ, i64_w, i32_w]
    rfl
  refine pure_ (i := 16) (N := some 100) (v := ?_) (a' := ?_) #[yY,yY,yY,yY,yY,yY,yY,yY,yY,yY,yY,yY,yY,yY,yY,yY,yY,nN,nN,nN] rfl rfl (by kernel_rfl) (fun _ _ _ h => h) (Or.inl ⟨by rfl, ?_⟩) ?_ ?_
  rotate_left
  · intro w'
    go_simp
    with_reducible rfl
  rotate_left
  · simp only [Act.put, List.setIfInBounds_toArray, List.set_cons_zero, List.set_cons_succ, i64_w, i32_w]
    rfl
  refine pure_ (i := 17) (N := some 101) (v := ?_) (a' := ?_) #[yY,yY,yY,yY,yY,yY,yY,yY,yY,yY,yY,yY,yY,yY,yY,yY,yY,yY,nN,nN] rfl rfl (by kernel_rfl) (fun _ _ _ h => h) (Or.inl ⟨by rfl, ?_⟩) ?_ ?_
  rotate_left
  · intro w'
    go_simp
    with_reducible rfl
  rotate_left
  · simp only [Act.put, List.setIfInBounds_toArray, List.set_cons_zero, List.set_cons_succ, i64_w, i32_w]
    rfl
  refine one_ (i := 18) (N := none) #[yY,yY,yY,yY,yY,yY,yY,yY,yY,yY,yY,yY,yY,yY,yY,yY,yY,yY,yY,nN] rfl rfl (by kernel_rfl) (by decide) (fun K hK => ?_)
  refine skip_ (w1 := ?_) (by rfl) rfl ?_ ?_
  rotate_left
  · go_simp
    rfl
  refine hK.out _ _ ⟨blk_cell (far5 HX7.out (by omega) _ _ _ _ _) 2, blk_cell (far5 HX7.out (by omega) _ _ _ _ _) 4, blk_cell (far5 HX7.out (by omega) _ _ _ _ _) 5, blk_cell (far5 HX7.out (by omega) _ _ _ _ _) 3⟩ (fun hHeld => ?_)
  clear hK K
  refine pure_ (i := 19) (N := some 3) (v := ?_) (a' := ?_) #[yY,yY,yY,yY,yY,yY,yY,yY,yY,yY,yY,yY,yY,yY,yY,yY,yY,yY,yY,yY] rfl rfl (by kernel_rfl) (fun _ _ _ h => h) (Or.inl ⟨by rfl, ?_⟩) ?_ ?_
  rotate_left
  · intro w'
    go_simp
    with_reducible rfl
  rotate_left
  · simp only [Act.put, List.setIfInBounds_toArray, List.set_cons_zero, List.set_cons_succ, i64_w, i32_w]
    rfl
  refine done_ (by kernel_rfl) ?_
  have HS0 : Hid (w.heap.size + 1 < W0.drew.heap.size) := Lib.hid (blk_lt HR0d.out)
  try go_wp2
  try simp only [Exit.inBlock, Exit.then]
  exact bodyPost_ret (results_ct (p := 2) (u := 3) rfl _ _ _ _ _ _ _ rfl (set5 HR7.out (.int .i64 d.f0) (.int .i64 d.f1) (.bool d.f2) (.slice E3 d.f3.length q3) (.slice E4 d.f4.length q4)) Tryd.underlying33 rfl size33) rfl
    ⟨E3, q3, E4, q4, rfl, lies5 HL7.out HS0.out (by have := HS0.out; omega) _ _ _ _ _, below5 (HB0.out.drew.trans (HB7.out.mono HB0.out.drew.size)) (Nat.le_succ _) _ _ _ _ _⟩
set_option maxHeartbeats 3200000 in
set_option maxRecDepth 100000 in
theorem lctl2d (o : ByteArray) (b : Bool) (v : List Int) (n : Int) (ck : List Int) (A3 : Option Addr) (c3 : Nat) (A5 : Option Addr) (c5 : Nat) (w : World) (h4 : (n == 0) = true) (h5 : ((ck.length : Int) == 0) = true) (h6 : ((v.length : Int) == 0) = true) :
    Calls Tryd.prog 39 #[.agg #[.int .i64 2, .string o, .bool b, .slice A3 v.length c3, .int .i64 n, .slice A5 ck.length c5]] w (LC w (sCtl ⟨#[50, 46, 49, 54, 46, 56, 52, 48, 46, 49, 46, 49, 49, 51, 55, 51, 48, 46, 51, 46, 52, 46, 50]⟩ b []) true) := by
  obtain ⟨W0, hW0⟩ : ∃ W0, W0 = (w.alloc (.cells #[.int .i64 2, .string o, .bool b, .slice A3 v.length c3, .int .i64 n, .slice A5 ck.length c5] 79)).alloc (.cells #[.int .i64 0, .int .i64 0, .bool false, .slice none 0 0, .slice none 0 0] 33) := ⟨_, rfl⟩
  have hb0 : Below w.heap.size w W0 := by rw [hW0]; exact below_alloc (below_alloc (Below.refl _ _) _) _
  have HX0 : Hid (W0.heap[w.heap.size]? = some (.cells #[.int .i64 2, .string o, .bool b, .slice A3 v.length c3, .int .i64 n, .slice A5 ck.length c5] 79 (0, 0))) := Lib.hid (by rw [hW0]; exact blk_alloc (blk_new _ _) _)
  have HR0 : Hid (W0.heap[w.heap.size + 1]? = some (.cells #[.int .i64 0, .int .i64 0, .bool false, .slice none 0 0, .slice none 0 0] 33 (0, 0))) := Lib.hid (by rw [hW0]; exact two_new _ _ _ _ _)
  have HX0d : Hid (W0.drew.heap[w.heap.size]? = some (.cells #[.int .i64 2, .string o, .bool b, .slice A3 v.length c3, .int .i64 n, .slice A5 ck.length c5] 79 (0, 0))) := Lib.hid HX0.out
  have HR0d : Hid (W0.drew.heap[w.heap.size + 1]? = some (.cells #[.int .i64 0, .int .i64 0, .bool false, .slice none 0 0, .slice none 0 0] 33 (0, 0))) := Lib.hid HR0.out
  have HSC : Hid (Calls Tryd.prog 74 #[.string ⟨#[50, 46, 49, 54, 46, 56, 52, 48, 46, 49, 46, 49, 49, 51, 55, 51, 48, 46, 51, 46, 52, 46, 50]⟩, .bool b, .slice none 0 0] W0.drew (Nw W0.drew.heap.size W0.drew (sCtl ⟨#[50, 46, 49, 54, 46, 56, 52, 48, 46, 49, 46, 49, 49, 51, 55, 51, 48, 46, 51, 46, 52, 46, 50]⟩ b []))) := Lib.hid (sCtl_nw _ b [] none 0 W0.drew (Kd.C_nil _ _) (by decide) (fun s hs => by cases hs) (by decide))
  have HB0 := Lib.hid hb0
  have HW0 := Lib.hid hW0
  obtain ⟨d, hd⟩ : ∃ d, d = sCtl ⟨#[50, 46, 49, 54, 46, 56, 52, 48, 46, 49, 46, 49, 49, 51, 55, 51, 48, 46, 51, 46, 52, 46, 50]⟩ b [] := ⟨_, rfl⟩
  rw [← hd] at HSC ⊢
  clear hb0 hW0 hd
  go_enter Tryd.func39, Tryd.ntmps39
  go_wp2_with fail
  rw [← HW0.out]
  refine start_ (n := 20) (S := fun w' => w'.cell? ⟨w.heap.size, 2, none⟩ = some (.bool b) ∧ w'.cell? ⟨w.heap.size, 4, none⟩ = some (.int .i64 n) ∧ w'.cell? ⟨w.heap.size, 5, none⟩ = some (.slice A5 ck.length c5) ∧ w'.cell? ⟨w.heap.size, 3, none⟩ = some (.slice A3 v.length c3)) (ds := []) #[nN,nN,nN,nN,nN,nN,nN,nN,nN,nN,nN,nN,nN,nN,nN,nN,nN,nN,nN,nN] (by kernel_rfl) rfl rfl ⟨blk_cell HX0d.out 2, blk_cell HX0d.out 4, blk_cell HX0d.out 5, blk_cell HX0d.out 3⟩ (fun hHeld => ?_)
  refine pure_ (i := 0) (N := some 84) (v := ?_) (a' := ?_) #[yY,nN,nN,nN,nN,nN,nN,nN,nN,nN,nN,nN,nN,nN,nN,nN,nN,nN,nN,nN] rfl rfl (by kernel_rfl) (fun _ _ _ h => h) (Or.inl ⟨by rfl, ?_⟩) ?_ ?_
  rotate_left
  · intro w'
    go_simp
    with_reducible rfl
  rotate_left
  · simp only [Act.put, List.setIfInBounds_toArray, List.set_cons_zero, List.set_cons_succ, i64_w, i32_w]
    rfl
  refine pure_ (i := 3) (N := some 87) (v := ?_) (a' := ?_) #[yY,nN,nN,yY,nN,nN,nN,nN,nN,nN,nN,nN,nN,nN,nN,nN,nN,nN,nN,nN] rfl rfl (by kernel_rfl) (fun _ _ _ h => h) (Or.inl ⟨by rfl, ?_⟩) ?_ ?_
  rotate_left
  · intro w'
    go_simp
    with_reducible rfl
  rotate_left
  · simp only [Act.put, List.setIfInBounds_toArray, List.set_cons_zero, List.set_cons_succ, i64_w, i32_w]
    rfl
  refine take_ (i := 1) (N := some 85) (v := ?_) (a' := ?_) #[yY,yY,nN,yY,nN,nN,nN,nN,nN,nN,nN,nN,nN,nN,nN,nN,nN,nN,nN,nN] rfl rfl (by kernel_rfl) (fun _ _ _ h => h) (Or.inl ⟨by rfl, ?_⟩) hHeld ?_ ?_
  rotate_left
  · rintro w' ⟨s0, s1, s2, s3⟩
    go_simp
    with_reducible rfl
  rotate_left
  · simp only [Act.put, List.setIfInBounds_toArray, List.set_cons_zero, List.set_cons_succ, i64_w, i32_w]
    rfl
  refine take_ (i := 4) (N := some 88) (v := ?_) (a' := ?_) #[yY,yY,nN,yY,yY,nN,nN,nN,nN,nN,nN,nN,nN,nN,nN,nN,nN,nN,nN,nN] rfl rfl (by kernel_rfl) (fun _ _ _ h => h) (Or.inl ⟨by rfl, ?_⟩) hHeld ?_ ?_
  rotate_left
  · rintro w' ⟨s0, s1, s2, s3⟩
    go_simp
    with_reducible rfl
  rotate_left
  · simp only [Act.put, List.setIfInBounds_toArray, List.set_cons_zero, List.set_cons_succ, i64_w, i32_w]
    rfl
  refine pure_ (i := 5) (N := some 89) (v := ?_) (a' := ?_) #[yY,yY,nN,yY,yY,yY,nN,nN,nN,nN,nN,nN,nN,nN,nN,nN,nN,nN,nN,nN] rfl rfl (by kernel_rfl) (fun _ _ _ h => h) (Or.inl ⟨by rfl, ?_⟩) ?_ ?_
  rotate_left
  · intro w'
    go_simp
    with_reducible rfl
  rotate_left
  · simp only [Act.put, List.setIfInBounds_toArray, List.set_cons_zero, List.set_cons_succ, i64_w, i32_w]
    rfl
  refine one_ (i := 2) (N := some 86) #[yY,yY,yY,yY,yY,yY,nN,nN,nN,nN,nN,nN,nN,nN,nN,nN,nN,nN,nN,nN] rfl rfl (by kernel_rfl) (by decide) (fun K hK => ?_)
  refine goes_ Tryd.func74 (by kernel_rfl) rfl #[.string ⟨#[50, 46, 49, 54, 46, 56, 52, 48, 46, 49, 46, 49, 49, 51, 55, 51, 48, 46, 51, 46, 52, 46, 50]⟩, .bool b, .slice none 0 0] (by rfl) rfl rfl (by simp only [List.map_toArray, List.map_cons, List.map_nil]; rfl) ?_
  with_reducible refine (HSC.out).mono ?_
  rintro e W7 h7
  obtain ⟨E3, q3, E4, q4, rfl, hl7, hB7⟩ := h7.open
  refine ⟨_, rfl, ?_⟩
  have HX7 := Lib.hid (blk_below HX0d.out hB7)
  have HR7 := Lib.hid (blk_below HR0d.out hB7)
  have HL7 := Lib.hid hl7
  have HB7 := Lib.hid hB7
  have r0 := blk_cell HR7.out 0
  have r1 := blk_cell HR7.out 1
  have r2 := blk_cell HR7.out 2
  have r3 := blk_cell HR7.out 3
  have r4 := blk_cell HR7.out 4
  have rf0 := blk_frozen HR7.out 0
  have rf1 := blk_frozen HR7.out 1
  have rf2 := blk_frozen HR7.out 2
  have rf3 := blk_frozen HR7.out 3
  have rf4 := blk_frozen HR7.out 4
  clear h7 hl7 hB7
  refine hK.out _ _ ⟨blk_cell HX7.out 2, blk_cell HX7.out 4, blk_cell HX7.out 5, blk_cell HX7.out 3⟩ (fun hHeld => ?_)
  clear hK K
  refine norm_ (a' := ?_) ?_ ?_
  rotate_left
  · show Act.put _ (some 86) _ = _
    simp only [Act.put, List.setIfInBounds_toArray, List.set_cons_zero, List.set_cons_succ, i64_w, i32_w]
    rfl
  refine pure_ (i := 6) (N := some 90) (v := ?_) (a' := ?_) #[yY,yY,yY,yY,yY,yY,yY,nN,nN,nN,nN,nN,nN,nN,nN,nN,nN,nN,nN,nN] rfl rfl (by kernel_rfl) (fun _ _ _ h => h) (Or.inl ⟨by rfl, ?_⟩) ?_ ?_
  rotate_left
  · intro w'
    go_simp
    with_reducible rfl
  rotate_left
  · simp only [Act.put, List.setIfInBounds_toArray, List.set_cons_zero, List.set_cons_succ, i64_w, i32_w]
    rfl
  refine pure_ (i := 7) (N := some 91) (v := ?_) (a' := ?_) #[yY,yY,yY,yY,yY,yY,yY,yY,nN,nN,nN,nN,nN,nN,nN,nN,nN,nN,nN,nN] rfl rfl (by kernel_rfl) (fun _ _ _ h => h) (Or.inl ⟨by rfl, ?_⟩) ?_ ?_
  rotate_left
  · intro w'
    go_simp
    with_reducible rfl
  rotate_left
  · simp only [Act.put, List.setIfInBounds_toArray, List.set_cons_zero, List.set_cons_succ, i64_w, i32_w]
    rfl
  refine take_ (i := 8) (N := some 92) (v := ?_) (a' := ?_) #[yY,yY,yY,yY,yY,yY,yY,yY,yY,nN,nN,nN,nN,nN,nN,nN,nN,nN,nN,nN] rfl rfl (by kernel_rfl) (fun _ _ _ h => h) (Or.inl ⟨by rfl, ?_⟩) hHeld ?_ ?_
  rotate_left
  · rintro w' ⟨s0, s1, s2, s3⟩
    go_simp
    with_reducible rfl
  rotate_left
  · simp only [Act.put, List.setIfInBounds_toArray, List.set_cons_zero, List.set_cons_succ, i64_w, i32_w]
    rfl
  refine pure_ (i := 9) (N := some 93) (v := ?_) (a' := ?_) #[yY,yY,yY,yY,yY,yY,yY,yY,yY,yY,nN,nN,nN,nN,nN,nN,nN,nN,nN,nN] rfl rfl (by kernel_rfl) (fun _ _ _ h => h) (Or.inl ⟨by rfl, ?_⟩) ?_ ?_
  rotate_left
  · intro w'
    go_simp
    with_reducible rfl
  rotate_left
  · simp only [Act.put, List.setIfInBounds_toArray, List.set_cons_zero, List.set_cons_succ, i64_w, i32_w]
    rfl
  refine pure_ (i := 10) (N := some 94) (v := ?_) (a' := ?_) #[yY,yY,yY,yY,yY,yY,yY,yY,yY,yY,yY,nN,nN,nN,nN,nN,nN,nN,nN,nN] rfl rfl (by kernel_rfl) (fun _ _ _ h => h) (Or.inl ⟨by rfl, ?_⟩) ?_ ?_
  rotate_left
  · intro w'
    go_simp
    with_reducible rfl
  rotate_left
  · simp only [Act.put, List.setIfInBounds_toArray, List.set_cons_zero, List.set_cons_succ, i64_w, i32_w]
    rfl
  refine pure_ (i := 11) (N := some 95) (v := ?_) (a' := ?_) #[yY,yY,yY,yY,yY,yY,yY,yY,yY,yY,yY,yY,nN,nN,nN,nN,nN,nN,nN,nN] rfl rfl (by kernel_rfl) (fun _ _ _ h => h) (Or.inl ⟨by rfl, ?_⟩) ?_ ?_
  rotate_left
  · intro w'
    go_simp
    with_reducible rfl
  rotate_left
  · simp only [Act.put, List.setIfInBounds_toArray, List.set_cons_zero, List.set_cons_succ, i64_w, i32_w]
    rfl
  refine pure_ (i := 12) (N := some 96) (v := ?_) (a' := ?_) #[yY,yY,yY,yY,yY,yY,yY,yY,yY,yY,yY,yY,yY,nN,nN,nN,nN,nN,nN,nN] rfl rfl (by kernel_rfl) (fun _ _ _ h => h) (Or.inl ⟨by rfl, ?_⟩) ?_ ?_
  rotate_left
  · intro w'
    go_simp
    with_reducible rfl
  rotate_left
  · simp only [Act.put, List.setIfInBounds_toArray, List.set_cons_zero, List.set_cons_succ, i64_w, i32_w]
    rfl
  refine pure_ (i := 13) (N := some 97) (v := ?_) (a' := ?_) #[yY,yY,yY,yY,yY,yY,yY,yY,yY,yY,yY,yY,yY,yY,nN,nN,nN,nN,nN,nN] rfl rfl (by kernel_rfl) (fun _ _ _ h => h) (Or.inl ⟨by rfl, ?_⟩) ?_ ?_
  rotate_left
  · intro w'
    go_simp
    with_reducible rfl
  rotate_left
  · simp only [Act.put, List.setIfInBounds_toArray, List.set_cons_zero, List.set_cons_succ, i64_w, i32_w]
    rfl
  refine take_ (i := 14) (N := some 98) (v := ?_) (a' := ?_) #[yY,yY,yY,yY,yY,yY,yY,yY,yY,yY,yY,yY,yY,yY,yY,nN,nN,nN,nN,nN] rfl rfl (by kernel_rfl) (fun _ _ _ h => h) (Or.inl ⟨by rfl, ?_⟩) hHeld ?_ ?_
  rotate_left
  · rintro w' ⟨s0, s1, s2, s3⟩
    go_simp
    with_reducible rfl
  rotate_left
  · simp only [Act.put, List.setIfInBounds_toArray, List.set_cons_zero, List.set_cons_succ, i64_w, i32_w]
    rfl
  refine pure_ (i := 15) (N := some 99) (v := ?_) (a' := ?_) #[yY,yY,yY,yY,yY,yY,yY,yY,yY,yY,yY,yY,yY,yY,yY,yY,nN,nN,nN,nN] rfl rfl (by kernel_rfl) (fun _ _ _ h => h) (Or.inl ⟨by rfl, ?_⟩) ?_ ?_
  rotate_left
  · intro w'
    go_simp
    with_reducible rfl
  rotate_left
  · simp only [Act.put, List.setIfInBounds_toArray, List.set_cons_zero, List.set_cons_succ, i64_w, i32_w]
    rfl
  refine pure_ (i := 16) (N := some 100) (v := ?_) (a' := ?_) #[yY,yY,yY,yY,yY,yY,yY,yY,yY,yY,yY,yY,yY,yY,yY,yY,yY,nN,nN,nN] rfl rfl (by kernel_rfl) (fun _ _ _ h => h) (Or.inl ⟨by rfl, ?_⟩) ?_ ?_
  rotate_left
  · intro w'
    go_simp
    with_reducible rfl
  rotate_left
  · simp only [Act.put, List.setIfInBounds_toArray, List.set_cons_zero, List.set_cons_succ, i64_w, i32_w]
    rfl
  refine pure_ (i := 17) (N := some 101) (v := ?_) (a' := ?_) #[yY,yY,yY,yY,yY,yY,yY,yY,yY,yY,yY,yY,yY,yY,yY,yY,yY,yY,nN,nN] rfl rfl (by kernel_rfl) (fun _ _ _ h => h) (Or.inl ⟨by rfl, ?_⟩) ?_ ?_
  rotate_left
  · intro w'
    go_simp
    with_reducible rfl
  rotate_left
  · simp only [Act.put, List.setIfInBounds_toArray, List.set_cons_zero, List.set_cons_succ, i64_w, i32_w]
    rfl
  refine one_ (i := 18) (N := none) #[yY,yY,yY,yY,yY,yY,yY,yY,yY,yY,yY,yY,yY,yY,yY,yY,yY,yY,yY,nN] rfl rfl (by kernel_rfl) (by decide) (fun K hK => ?_)
  refine skip_ (w1 := ?_) (by rfl) rfl ?_ ?_
  rotate_left
  · go_simp
    rfl
  refine hK.out _ _ ⟨blk_cell (far5 HX7.out (by omega) _ _ _ _ _) 2, blk_cell (far5 HX7.out (by omega) _ _ _ _ _) 4, blk_cell (far5 HX7.out (by omega) _ _ _ _ _) 5, blk_cell (far5 HX7.out (by omega) _ _ _ _ _) 3⟩ (fun hHeld => ?_)
  clear hK K
  refine pure_ (i := 19) (N := some 3) (v := ?_) (a' := ?_) #[yY,yY,yY,yY,yY,yY,yY,yY,yY,yY,yY,yY,yY,yY,yY,yY,yY,yY,yY,yY] rfl rfl (by kernel_rfl) (fun _ _ _ h => h) (Or.inl ⟨by rfl, ?_⟩) ?_ ?_
  rotate_left
  · intro w'
    go_simp
    with_reducible rfl
  rotate_left
  · simp only [Act.put, List.setIfInBounds_toArray, List.set_cons_zero, List.set_cons_succ, i64_w, i32_w]
    rfl
  refine done_ (by kernel_rfl) ?_
  have HS0 : Hid (w.heap.size + 1 < W0.drew.heap.size) := Lib.hid (blk_lt HR0d.out)
  try go_wp2
  try simp only [Exit.inBlock, Exit.then]
  exact bodyPost_ret (results_ct (p := 2) (u := 3) rfl _ _ _ _ _ _ _ rfl (set5 HR7.out (.int .i64 d.f0) (.int .i64 d.f1) (.bool d.f2) (.slice E3 d.f3.length q3) (.slice E4 d.f4.length q4)) Tryd.underlying33 rfl size33) rfl
    ⟨E3, q3, E4, q4, rfl, lies5 HL7.out HS0.out (by have := HS0.out; omega) _ _ _ _ _, below5 (HB0.out.drew.trans (HB7.out.mono HB0.out.drew.size)) (Nat.le_succ _) _ _ _ _ _⟩
theorem lctl2_any (o : ByteArray) (b : Bool) (v : List Int) (n : Int) (ck : List Int) (A3 : Option Addr) (c3 : Nat) (A5 : Option Addr) (c5 : Nat) (w : World) :
    Calls Tryd.prog 39 #[.agg #[.int .i64 2, .string o, .bool b, .slice A3 v.length c3, .int .i64 n, .slice A5 ck.length c5]] w (LC w (sCtl ⟨#[50, 46, 49, 54, 46, 56, 52, 48, 46, 49, 46, 49, 49, 51, 55, 51, 48, 46, 51, 46, 52, 46, 50]⟩ b []) ((n == 0) && ((ck.length : Int) == 0) && ((v.length : Int) == 0))) := by
  cases h4 : (n == 0)
  · exact lctl2a o b v n ck A3 c3 A5 c5 w h4
  · cases h5 : ((ck.length : Int) == 0)
    · exact lctl2b o b v n ck A3 c3 A5 c5 w h4 h5
    · cases h6 : ((v.length : Int) == 0)
      · exact lctl2c o b v n ck A3 c3 A5 c5 w h4 h5 h6
      · exact lctl2d o b v n ck A3 c3 A5 c5 w h4 h5 h6
set_option maxHeartbeats 3200000 in
set_option maxRecDepth 100000 in
theorem lctlN_any (kd : Int) (o : ByteArray) (b : Bool) (n3 : Nat) (n : Int) (n5 : Nat) (A3 : Option Addr) (c3 : Nat) (A5 : Option Addr) (c5 : Nat) (w : World) (h0 : (kd == 0) = false) (h1 : (kd == 1) = false) (h2 : (kd == 2) = false) :
    Calls Tryd.prog 39 #[.agg #[.int .i64 kd, .string o, .bool b, .slice A3 n3 c3, .int .i64 n, .slice A5 n5 c5]] w (LC w ⟨0, 0, false, [], []⟩ false) := by
  have hb0 : Below w.heap.size w ((w.alloc (.cells #[.int .i64 kd, .string o, .bool b, .slice A3 n3 c3, .int .i64 n, .slice A5 n5 c5] 79)).alloc (.cells #[.int .i64 0, .int .i64 0, .bool false, .slice none 0 0, .slice none 0 0] 33)) := below_alloc (below_alloc (Below.refl _ _) _) _
  go_enter Tryd.func39, Tryd.ntmps39
  go_wp2
  try simp only [Exit.inBlock, Exit.then]
  exact bodyPost_ret (results_ct (p := 2) (u := 3) rfl _ _ _ _ _ _ _ rfl (two_new w _ #[.int .i64 0, .int .i64 0, .bool false, .slice none 0 0, .slice none 0 0] _ _) Tryd.underlying33 rfl size33) rfl
    ⟨none, 0, none, 0, rfl, ⟨Nat.le_refl _, Kd.F_nil _ _ _, Nat.le_refl _, Kd.F_nil _ _ _⟩, hb0⟩
end Go.Proofs.YtbmcpjkhnhbjdaaDoor.Ber
namespace Go.Proofs.YtbmcpjkhnhbjdaaDoor.Ber
open Go.RowKit Go.Proofs.YtbmcpjkhnhbjdaaDoorW.PrintWords Go.Proofs.YtbmcpjkhnhbjdaaDoor.PFnEncode Go.Proofs.YtbmcpjkhnhbjdaaDoorW.PrintLast Go.Proofs.YtbmcpjkhnhbjdaaDoor.Tree Go.Proofs.YtbmcpjkhnhbjdaaDoor.Buf Go.Proofs.YtbmcpjkhnhbjdaaDoor.Pk Go.Proofs.YtbmcpjkhnhbjdaaDoor.Within Go.Proofs.YtbmcpjkhnhbjdaaDoor.Num
set_option linter.unusedVariables false
set_option linter.unusedSimpArgs false

theorem LiesO.fk {ok : Nat → Prop} {W : World} {x : S33} {A3 : Option Addr} {c3 : Nat} {A4 : Option Addr} {c4 : Nat} (h : LiesO ok W x A3 c3 A4 c4) : Kd.FK k33 W ok x (cellsP x A3 c3 A4 c4) := k33_mkF W _ x h.1 h.2.1 h.2.2.1 h.2.2.2
/-- two elements, in a block -/
theorem N_two {α : Type} {d : Kd α} {e : Nat} {W : World} {n base : Nat} {ok : Nat → Prop} {x y : α} {c1 c2 : List Value} (hbl : W.heap[n]? = some (.cells (c1 ++ c2).toArray e (0, 0))) (hb : base ≤ n) (hok : ok n) (hx : Kd.FK d W (fun k => ok k ∧ k ≠ n) x c1) (hy : Kd.FK d W (fun k => ok k ∧ k ≠ n) y c2) : Kd.N d e W base ok (.slice (some ⟨n, 0, none⟩) 2 2) [x, y] := by
  have hlen1 := d.K_len (Kd.FK_now hx)
  have hone1 := d.K_one (Kd.FK_now hx)
  have hlen2 := d.K_len (Kd.FK_now hy)
  have hone2 := d.K_one (Kd.FK_now hy)
  have hl2 : (c1 ++ c2).length = 2 * d.sz := by rw [List.length_append, hlen1, hlen2]; omega
  have away : ∀ k, (ok k ∧ k ≠ n) → ok k ∧ some k ≠ (Value.slice (some ⟨n, 0, none⟩) 2 2).ownBlock := fun k hk => ⟨hk.1, fun he => by
    have : k = n := by simpa [Value.ownBlock] using he
    exact hk.2 this⟩
  refine ⟨fun k hk => ?_, [c1, c2], rfl, ⟨fun k hk => hk.symm, c1 ++ c2, ?_, ?_⟩, fun j y' c' h1 h2 => ?_⟩
  · have : n = k := by simpa [Value.ownBlock] using hk
    rw [← this]
    exact hok
  · exact ⟨hl2, .inr ⟨n, 2, _, rfl, hb, hbl, Nat.le_refl _, by unfold maxLen; omega, by show (c1 ++ c2).toArray.size = 2 * d.sz; simpa using hl2, by rw [List.toList_toArray]; exact List.take_of_length_le (by rw [hl2]; exact Nat.le_refl _)⟩⟩
  · exact Reps.snoc (Reps.snoc (Reps.none _ d.sz) (p := c1) ⟨rfl, hlen1, hone1⟩ hlen1) (p := c2) ⟨rfl, hlen2, hone2⟩ hlen2
  · rcases j with _ | _ | j
    · have e1 : x = y' := by simpa using h1
      have e2 : c1 = c' := by simpa using h2
      subst e1
      subst e2
      exact Kd.FK_mono hx away
    · have e1 : y = y' := by simpa using h1
      have e2 : c2 = c' := by simpa using h2
      subst e1
      subst e2
      exact Kd.FK_mono hy away
    · simp at h1
/-- the result's block holds it -/
theorem msg_end {w W : World} {g base : Nat} {v : Value} {l : List S33} (hb : Below w.heap.size w W) (hN : Kd.N k33 33 W base (fun k => k ≠ w.heap.size + 1 ∧ k ≠ g) v l) (A : Option Addr) (c : Nat) (hv : v = .slice A l.length c) (hc : l.length ≤ c) :
    Got w (tL l) (.returned (.agg #[.int .i64 0, .int .i64 16, .bool true, .slice none 0 0, .slice A l.length c])) (((((W.setCell ⟨w.heap.size + 1, 0, none⟩ (.int .i64 0)).setCell ⟨w.heap.size + 1, 1, none⟩ (.int .i64 16)).setCell ⟨w.heap.size + 1, 2, none⟩ (.bool true)).setCell ⟨w.heap.size + 1, 3, none⟩ (.slice none 0 0)).setCell ⟨w.heap.size + 1, 4, none⟩ (.slice A l.length c)) := by
  subst hv
  obtain ⟨A', c', he, _, _⟩ := Kd.N_reads hN
  injection he with h1 h2 h3
  subst h1
  subst h3
  refine ⟨none, 0, A, c, rfl, Nat.le_refl _, Kd.C_nil _ _, hc, ?_, below5 hb (Nat.le_succ _) _ _ _ _ _⟩
  exact Kd.F_now (Kd.F_step (Kd.N_F hN) (fun k hk _ => heap5 hk.1 _ _ _ _ _))
set_option maxHeartbeats 3200000 in
set_option maxRecDepth 100000 in
theorem sMsg_any (id : Int) (hid : -9223372036854775808 ≤ id ∧ id ≤ 9223372036854775807) (x : S33) (A3 : Option Addr) (c3 : Nat) (A4 : Option Addr) (c4 : Nat) (ss : List S33) (A5 : Option Addr) (c5 : Nat) (w : World)
    (l3 : x.f3.length ≤ c3) (h3 : (Kd.int .u8).C w A3 x.f3.length x.f3) (l4 : x.f4.length ≤ c4) (h4 : k33.C w A4 x.f4.length x.f4) (l5 : ss.length ≤ c5) (h5 : k33.C w A5 ss.length ss) :
    Calls Tryd.prog 41 #[.int .i64 id, .agg #[.int .i64 x.f0, .int .i64 x.f1, .bool x.f2, .slice A3 x.f3.length c3, .slice A4 x.f4.length c4], .slice A5 ss.length c5] w (Got w (msgT id x ss)) := by
  have HLX0 : Hid (LiesO (fun k => k < w.heap.size) w x A3 c3 A4 c4) := Lib.hid ⟨l3, Kd.C_F (Kd.heap_int .u8) h3, l4, Kd.C_F k33_heap h4⟩
  have HSS0 : Hid (Kd.F k33 w (fun k => k < w.heap.size) A5 ss.length ss) := Lib.hid (Kd.C_F k33_heap h5)
  have HL5 := Lib.hid l5
  obtain ⟨x1, hx1⟩ : ∃ x1 : S33, x1 = ⟨0, 2, false, whole id, []⟩ := ⟨_, rfl⟩
  have HNU : Hid (∀ W, Calls Tryd.prog 54 #[.int .i64 id] W (Nw W.heap.size W x1)) := Lib.hid (fun W => by rw [hx1]; exact number_nw id hid W)
  have HM : Hid (msgT id x ss = tL ([x1, x] ++ (if ss.isEmpty then [] else [⟨2, 0, true, [], ss⟩]))) := Lib.hid (by rw [hx1]; rfl)
  obtain ⟨y, hy⟩ : ∃ y, y = msgT id x ss := ⟨_, rfl⟩
  rw [← hy] at HM ⊢
  obtain ⟨W0, hW0⟩ : ∃ W0, W0 = (w.alloc (.cells #[.int .i64 x.f0, .int .i64 x.f1, .bool x.f2, .slice A3 x.f3.length c3, .slice A4 x.f4.length c4] 33)).alloc (.cells #[.int .i64 0, .int .i64 0, .bool false, .slice none 0 0, .slice none 0 0] 33) := ⟨_, rfl⟩
  have hb0 : Below w.heap.size w W0 := by rw [hW0]; exact below_alloc (below_alloc (Below.refl _ _) _) _
  have HB0 := Lib.hid hb0
  have HX0 : Hid (W0.heap[w.heap.size]? = some (.cells #[.int .i64 x.f0, .int .i64 x.f1, .bool x.f2, .slice A3 x.f3.length c3, .slice A4 x.f4.length c4] 33 (0, 0))) := Lib.hid (by rw [hW0]; exact blk_alloc (blk_new _ _) _)
  have HR0 : Hid (W0.heap[w.heap.size + 1]? = some (.cells #[.int .i64 0, .int .i64 0, .bool false, .slice none 0 0, .slice none 0 0] 33 (0, 0))) := Lib.hid (by rw [hW0]; exact two_new _ _ _ _ _)
  have HS1 : Hid (w.heap.size + 1 < W0.drew.heap.size) := Lib.hid (blk_lt HR0.out)
  have HW0 := Lib.hid hW0
  have HB1 : Hid (Below w.heap.size w W0.drew) := Lib.hid hb0.drew
  have HX0d : Hid (W0.drew.heap[w.heap.size]? = some (.cells #[.int .i64 x.f0, .int .i64 x.f1, .bool x.f2, .slice A3 x.f3.length c3, .slice A4 x.f4.length c4] 33 (0, 0))) := Lib.hid HX0.out
  have HR0d : Hid (W0.drew.heap[w.heap.size + 1]? = some (.cells #[.int .i64 0, .int .i64 0, .bool false, .slice none 0 0, .slice none 0 0] 33 (0, 0))) := Lib.hid HR0.out
  have HBR : Hid (Below W0.drew.heap.size W0.drew W0.drew) := Lib.hid (Below.refl _ _)
  have HLX : Hid (LiesO (fun k => k < w.heap.size) W0.drew x A3 c3 A4 c4) := Lib.hid (HLX0.out.below hb0.drew)
  clear hy hx1 hid l3 h3 l4 h4 l5 h5 hW0 hb0 HLX0
  go_enter Tryd.func41, Tryd.ntmps41
  go_upto_region 1 with fail
  rw [← HW0.out]
  refine start_ (n := 7) (S := fun w' => w'.cell? ⟨w.heap.size, 0, none⟩ = some (.int .i64 x.f0) ∧ w'.cell? ⟨w.heap.size, 1, none⟩ = some (.int .i64 x.f1) ∧ w'.cell? ⟨w.heap.size, 2, none⟩ = some (.bool x.f2) ∧ w'.cell? ⟨w.heap.size, 3, none⟩ = some (.slice A3 x.f3.length c3) ∧ w'.cell? ⟨w.heap.size, 4, none⟩ = some (.slice A4 x.f4.length c4)) (ds := []) #[nN,nN,nN,nN,nN,nN,nN] (by kernel_rfl) rfl rfl ⟨blk_cell (HX0d.out) 0, blk_cell (HX0d.out) 1, blk_cell (HX0d.out) 2, blk_cell (HX0d.out) 3, blk_cell (HX0d.out) 4⟩ (fun hHeld => ?_)
  obtain ⟨W1, hW1⟩ : ∃ W1, W1 = W0.drew := ⟨_, rfl⟩
  rw [← hW1] at HB1 HX0d HR0d HBR HS1 HLX hHeld ⊢
  clear hW1
  refine pure_ (i := 0) (N := some 8) (v := ?_) (a' := ?_) #[yY,nN,nN,nN,nN,nN,nN] rfl rfl (by kernel_rfl) (fun _ _ _ h => h) (Or.inl ⟨by rfl, ?_⟩) ?_ ?_
  rotate_left
  · intro w'
    go_simp
    with_reducible rfl
  rotate_left
  · simp only [Act.put, List.setIfInBounds_toArray, List.set_cons_zero, List.set_cons_succ, i64_w, i32_w]
    rfl
  refine take_ (i := 2) (N := some 10) (v := ?_) (a' := ?_) #[yY,nN,yY,nN,nN,nN,nN] rfl rfl (by kernel_rfl) (fun _ _ _ h => h) (Or.inl ⟨by rfl, ?_⟩) hHeld ?_ ?_
  rotate_left
  · rintro w' ⟨s0, s1, s2, s3, s4⟩
    go_simp
    with_reducible rfl
  rotate_left
  · simp only [Act.put, List.setIfInBounds_toArray, List.set_cons_zero, List.set_cons_succ, i64_w, i32_w]
    rfl
  refine join_ (σ := Option Addr × Nat × Option Addr × Nat × Nat × Nat) 1 #[yY,yY,yY,yY,yY,yY,nN] (fun z => [(9, .agg #[.int .i64 x1.f0, .int .i64 x1.f1, .bool x1.f2, .slice z.1 x1.f3.length z.2.1, .slice z.2.2.1 x1.f4.length z.2.2.2.1]), (11, .slice (some ⟨z.2.2.2.2.1, 0, none⟩) 2 2), (12, .agg #[.int .i64 0, .int .i64 16, .bool true, .slice none 0 0, .slice (some ⟨z.2.2.2.2.1, 0, none⟩) 2 2]), (7, .pointer (some ⟨z.2.2.2.2.2, 0, none⟩))]) (fun z w' => Below W1.heap.size W1 w' ∧ LiesO (fun k => W1.heap.size ≤ k ∧ k ≠ z.2.2.2.2.1 ∧ k ≠ z.2.2.2.2.2) w' x1 z.1 z.2.1 z.2.2.1 z.2.2.2.1 ∧ w'.heap[z.2.2.2.2.1]? = some (.cells #[.int .i64 x1.f0, .int .i64 x1.f1, .bool x1.f2, .slice z.1 x1.f3.length z.2.1, .slice z.2.2.1 x1.f4.length z.2.2.2.1, .int .i64 x.f0, .int .i64 x.f1, .bool x.f2, .slice A3 x.f3.length c3, .slice A4 x.f4.length c4] 33 (0, 0)) ∧ w'.heap[z.2.2.2.2.2]? = some (.cells #[.int .i64 0, .int .i64 0, .bool false, .slice none 0 0, .slice none 0 0] 33 (0, 0)) ∧ (W1.heap.size ≤ z.2.2.2.2.1 ∧ W1.heap.size ≤ z.2.2.2.2.2 ∧ z.2.2.2.2.1 ≠ z.2.2.2.2.2)) ?_ ?_
  rotate_left
  · intro hCont
    refine two_ (i := 1) (j := 5) (Ni := some 9) (Nj := some 7) #[yY,yY,yY,nN,nN,nN,nN] #[yY,nN,yY,nN,nN,yY,nN] rfl rfl rfl rfl (by kernel_rfl) (by decide) (by decide) (fun K hK => ?_) (fun K hK => ?_)
    · skip
      refine goes_ Tryd.func54 (by kernel_rfl) rfl #[.int .i64 id] (by rfl) rfl rfl (by simp only [List.map_toArray, List.map_cons, List.map_nil]; rfl) ?_
      with_reducible refine (HNU.out _).mono ?_
      rintro e Wu hu
      obtain ⟨E3, q3, E4, q4, rfl, hlu, hBu⟩ := hu.open
      refine ⟨_, rfl, ?_⟩
      have HBu := Lib.hid ((HBR.out).trans (hBu.mono (HBR.out).size))
      have HLu := Lib.hid hlu.o
      have HZu := Lib.hid hBu.size
      clear hu hlu hBu
      refine hK.out _ _ ⟨blk_cell (blk_below HX0d.out HBu.out) 0, blk_cell (blk_below HX0d.out HBu.out) 1, blk_cell (blk_below HX0d.out HBu.out) 2, blk_cell (blk_below HX0d.out HBu.out) 3, blk_cell (blk_below HX0d.out HBu.out) 4⟩ (fun hHeld => ?_)
      clear hK K
      refine norm_ (a' := ?_) ?_ ?_
      rotate_left
      · show Act.put _ (some 9) _ = _
        simp only [Act.put, List.setIfInBounds_toArray, List.set_cons_zero, List.set_cons_succ, i64_w, i32_w]
        rfl
      refine two_ (i := 3) (j := 5) (Ni := some 11) (Nj := some 7) #[yY,yY,yY,yY,nN,nN,nN] #[yY,yY,yY,nN,nN,yY,nN] rfl rfl rfl rfl (by kernel_rfl) (by decide) (by decide) (fun K hK => ?_) (fun K hK => ?_)
      · skip
        refine value_ (w1 := ?_) (v := ?_) (by rfl) rfl ?_ ?_
        rotate_left 2
        · go_simp
          constructor
          · rfl
          · rfl
        obtain ⟨Wub, hWub⟩ : ∃ W, W = Wu.alloc (.cells #[.int .i64 x1.f0, .int .i64 x1.f1, .bool x1.f2, .slice E3 x1.f3.length q3, .slice E4 x1.f4.length q4, .int .i64 x.f0, .int .i64 x.f1, .bool x.f2, .slice A3 x.f3.length c3, .slice A4 x.f4.length c4] 33) := ⟨_, rfl⟩
        rw [← hWub]
        have hBub : Below Wu.heap.size Wu Wub := by rw [hWub]; exact below_alloc (Below.refl _ _) _
        have HBub := Lib.hid ((HBu.out).trans (hBub.mono (HBu.out).size))
        have HNub : Hid (Wub.heap[Wu.heap.size]? = some (.cells #[.int .i64 x1.f0, .int .i64 x1.f1, .bool x1.f2, .slice E3 x1.f3.length q3, .slice E4 x1.f4.length q4, .int .i64 x.f0, .int .i64 x.f1, .bool x.f2, .slice A3 x.f3.length c3, .slice A4 x.f4.length c4] 33 (0, 0))) := Lib.hid (by rw [hWub]; exact blk_new _ _)
        have HZub : Hid (Wub.heap.size = Wu.heap.size + 1) := Lib.hid (by rw [hWub]; simp)
        have HLub := Lib.hid (HLu.out.below hBub)
        clear hWub hBub
        refine hK.out _ _ ⟨blk_cell (blk_below HX0d.out HBub.out) 0, blk_cell (blk_below HX0d.out HBub.out) 1, blk_cell (blk_below HX0d.out HBub.out) 2, blk_cell (blk_below HX0d.out HBub.out) 3, blk_cell (blk_below HX0d.out HBub.out) 4⟩ (fun hHeld => ?_)
        clear hK K
        refine norm_ (a' := ?_) ?_ ?_
        rotate_left
        · show Act.put _ (some 11) _ = _
          simp only [Act.put, List.setIfInBounds_toArray, List.set_cons_zero, List.set_cons_succ, i64_w, i32_w]
          rfl
        refine two_ (i := 4) (j := 5) (Ni := some 12) (Nj := some 7) #[yY,yY,yY,yY,yY,nN,nN] #[yY,yY,yY,yY,nN,yY,nN] rfl rfl rfl rfl (by kernel_rfl) (by decide) (by decide) (fun K hK => ?_) (fun K hK => ?_)
        · skip
          refine goes_ Tryd.func48 (by kernel_rfl) rfl #[.slice (some ⟨Wu.heap.size, 0, none⟩) 2 2] (by rfl) rfl rfl (by simp only [List.map_toArray, List.map_cons, List.map_nil]; rfl) ?_
          with_reducible refine (list_ex _ 2 2 _).mono ?_
          rintro e Wubl ⟨rfl, hBubl⟩
          refine ⟨_, rfl, ?_⟩
          have HBubl := Lib.hid ((HBub.out).trans (hBubl.mono (HBub.out).size))
          have HZubl := Lib.hid hBubl.size
          have HLubl := Lib.hid (HLub.out.below hBubl)
          have HNubl := Lib.hid (blk_below HNub.out hBubl)
          clear hBubl
          refine hK.out _ _ ⟨blk_cell (blk_below HX0d.out HBubl.out) 0, blk_cell (blk_below HX0d.out HBubl.out) 1, blk_cell (blk_below HX0d.out HBubl.out) 2, blk_cell (blk_below HX0d.out HBubl.out) 3, blk_cell (blk_below HX0d.out HBubl.out) 4⟩ (fun hHeld => ?_)
          clear hK K
          refine norm_ (a' := ?_) ?_ ?_
          rotate_left
          · show Act.put _ (some 12) _ = _
            simp only [Act.put, List.setIfInBounds_toArray, List.set_cons_zero, List.set_cons_succ, i64_w, i32_w]
            rfl
          refine one_ (i := 5) (N := some 7) #[yY,yY,yY,yY,yY,yY,nN] rfl rfl (by kernel_rfl) (by decide) (fun K hK => ?_)
          refine value_ (w1 := ?_) (v := ?_) (by rfl) rfl ?_ ?_
          rotate_left 2
          · go_simp
            constructor
            · rfl
            · rfl
          obtain ⟨Wubla, hWubla⟩ : ∃ W, W = Wubl.alloc (.cells #[.int .i64 0, .int .i64 0, .bool false, .slice none 0 0, .slice none 0 0] 33) := ⟨_, rfl⟩
          rw [← hWubla]
          have hBubla : Below Wubl.heap.size Wubl Wubla := by rw [hWubla]; exact below_alloc (Below.refl _ _) _
          have HBubla := Lib.hid ((HBubl.out).trans (hBubla.mono (HBubl.out).size))
          have HAubla : Hid (Wubla.heap[Wubl.heap.size]? = some (.cells #[.int .i64 0, .int .i64 0, .bool false, .slice none 0 0, .slice none 0 0] 33 (0, 0))) := Lib.hid (by rw [hWubla]; exact blk_new _ _)
          have HZubla : Hid (Wubla.heap.size = Wubl.heap.size + 1) := Lib.hid (by rw [hWubla]; simp)
          have HLubla := Lib.hid (HLubl.out.below hBubla)
          have HNubla := Lib.hid (blk_below HNubl.out hBubla)
          clear hWubla hBubla
          refine hK.out _ _ ⟨blk_cell (blk_below HX0d.out HBubla.out) 0, blk_cell (blk_below HX0d.out HBubla.out) 1, blk_cell (blk_below HX0d.out HBubla.out) 2, blk_cell (blk_below HX0d.out HBubla.out) 3, blk_cell (blk_below HX0d.out HBubla.out) 4⟩ (fun hHeld => ?_)
          clear hK K
          refine norm_ (a' := ?_) ?_ ?_
          rotate_left
          · show Act.put _ (some 7) _ = _
            simp only [Act.put, List.setIfInBounds_toArray, List.set_cons_zero, List.set_cons_succ, i64_w, i32_w]
            rfl
          exact norm_ (by simp only [putAll, Act.put, List.setIfInBounds_toArray, List.set_cons_zero, List.set_cons_succ]) (hCont (E3, q3, E4, q4, Wu.heap.size, Wubl.heap.size) _ ⟨HBubla.out, HLubla.out.mono (fun k hk => by dsimp only at hk ⊢; have z1 := HZu.out; have z2 := HZub.out; have z3 := HZubl.out; have z4 := HZubla.out; have z5 := HBR.out.size; omega), HNubla.out, HAubla.out, by dsimp only; have z1 := HZu.out; have z2 := HZub.out; have z3 := HZubl.out; have z4 := HZubla.out; omega⟩)
        · skip
          refine value_ (w1 := ?_) (v := ?_) (by rfl) rfl ?_ ?_
          rotate_left 2
          · go_simp
            constructor
            · rfl
            · rfl
          obtain ⟨Wuba, hWuba⟩ : ∃ W, W = Wub.alloc (.cells #[.int .i64 0, .int .i64 0, .bool false, .slice none 0 0, .slice none 0 0] 33) := ⟨_, rfl⟩
          rw [← hWuba]
          have hBuba : Below Wub.heap.size Wub Wuba := by rw [hWuba]; exact below_alloc (Below.refl _ _) _
          have HBuba := Lib.hid ((HBub.out).trans (hBuba.mono (HBub.out).size))
          have HAuba : Hid (Wuba.heap[Wub.heap.size]? = some (.cells #[.int .i64 0, .int .i64 0, .bool false, .slice none 0 0, .slice none 0 0] 33 (0, 0))) := Lib.hid (by rw [hWuba]; exact blk_new _ _)
          have HZuba : Hid (Wuba.heap.size = Wub.heap.size + 1) := Lib.hid (by rw [hWuba]; simp)
          have HLuba := Lib.hid (HLub.out.below hBuba)
          have HNuba := Lib.hid (blk_below HNub.out hBuba)
          clear hWuba hBuba
          refine hK.out _ _ ⟨blk_cell (blk_below HX0d.out HBuba.out) 0, blk_cell (blk_below HX0d.out HBuba.out) 1, blk_cell (blk_below HX0d.out HBuba.out) 2, blk_cell (blk_below HX0d.out HBuba.out) 3, blk_cell (blk_below HX0d.out HBuba.out) 4⟩ (fun hHeld => ?_)
          clear hK K
          refine norm_ (a' := ?_) ?_ ?_
          rotate_left
          · show Act.put _ (some 7) _ = _
            simp only [Act.put, List.setIfInBounds_toArray, List.set_cons_zero, List.set_cons_succ, i64_w, i32_w]
            rfl
          refine one_ (i := 4) (N := some 12) #[yY,yY,yY,yY,yY,yY,nN] rfl rfl (by kernel_rfl) (by decide) (fun K hK => ?_)
          refine goes_ Tryd.func48 (by kernel_rfl) rfl #[.slice (some ⟨Wu.heap.size, 0, none⟩) 2 2] (by rfl) rfl rfl (by simp only [List.map_toArray, List.map_cons, List.map_nil]; rfl) ?_
          with_reducible refine (list_ex _ 2 2 _).mono ?_
          rintro e Wubal ⟨rfl, hBubal⟩
          refine ⟨_, rfl, ?_⟩
          have HBubal := Lib.hid ((HBuba.out).trans (hBubal.mono (HBuba.out).size))
          have HZubal := Lib.hid hBubal.size
          have HLubal := Lib.hid (HLuba.out.below hBubal)
          have HNubal := Lib.hid (blk_below HNuba.out hBubal)
          have HAubal := Lib.hid (blk_below HAuba.out hBubal)
          clear hBubal
          refine hK.out _ _ ⟨blk_cell (blk_below HX0d.out HBubal.out) 0, blk_cell (blk_below HX0d.out HBubal.out) 1, blk_cell (blk_below HX0d.out HBubal.out) 2, blk_cell (blk_below HX0d.out HBubal.out) 3, blk_cell (blk_below HX0d.out HBubal.out) 4⟩ (fun hHeld => ?_)
          clear hK K
          refine norm_ (a' := ?_) ?_ ?_
          rotate_left
          · show Act.put _ (some 12) _ = _
            simp only [Act.put, List.setIfInBounds_toArray, List.set_cons_zero, List.set_cons_succ, i64_w, i32_w]
            rfl
          exact norm_ (by simp only [putAll, Act.put, List.setIfInBounds_toArray, List.set_cons_zero, List.set_cons_succ]) (hCont (E3, q3, E4, q4, Wu.heap.size, Wub.heap.size) _ ⟨HBubal.out, HLubal.out.mono (fun k hk => by dsimp only at hk ⊢; have z1 := HZu.out; have z2 := HZub.out; have z3 := HZuba.out; have z4 := HZubal.out; have z5 := HBR.out.size; omega), HNubal.out, HAubal.out, by dsimp only; have z1 := HZu.out; have z2 := HZub.out; have z3 := HZuba.out; have z4 := HZubal.out; omega⟩)
      · skip
        refine value_ (w1 := ?_) (v := ?_) (by rfl) rfl ?_ ?_
        rotate_left 2
        · go_simp
          constructor
          · rfl
          · rfl
        obtain ⟨Wua, hWua⟩ : ∃ W, W = Wu.alloc (.cells #[.int .i64 0, .int .i64 0, .bool false, .slice none 0 0, .slice none 0 0] 33) := ⟨_, rfl⟩
        rw [← hWua]
        have hBua : Below Wu.heap.size Wu Wua := by rw [hWua]; exact below_alloc (Below.refl _ _) _
        have HBua := Lib.hid ((HBu.out).trans (hBua.mono (HBu.out).size))
        have HAua : Hid (Wua.heap[Wu.heap.size]? = some (.cells #[.int .i64 0, .int .i64 0, .bool false, .slice none 0 0, .slice none 0 0] 33 (0, 0))) := Lib.hid (by rw [hWua]; exact blk_new _ _)
        have HZua : Hid (Wua.heap.size = Wu.heap.size + 1) := Lib.hid (by rw [hWua]; simp)
        have HLua := Lib.hid (HLu.out.below hBua)
        clear hWua hBua
        refine hK.out _ _ ⟨blk_cell (blk_below HX0d.out HBua.out) 0, blk_cell (blk_below HX0d.out HBua.out) 1, blk_cell (blk_below HX0d.out HBua.out) 2, blk_cell (blk_below HX0d.out HBua.out) 3, blk_cell (blk_below HX0d.out HBua.out) 4⟩ (fun hHeld => ?_)
        clear hK K
        refine norm_ (a' := ?_) ?_ ?_
        rotate_left
        · show Act.put _ (some 7) _ = _
          simp only [Act.put, List.setIfInBounds_toArray, List.set_cons_zero, List.set_cons_succ, i64_w, i32_w]
          rfl
        refine one_ (i := 3) (N := some 11) #[yY,yY,yY,yY,nN,yY,nN] rfl rfl (by kernel_rfl) (by decide) (fun K hK => ?_)
        refine value_ (w1 := ?_) (v := ?_) (by rfl) rfl ?_ ?_
        rotate_left 2
        · go_simp
          constructor
          · rfl
          · rfl
        obtain ⟨Wuab, hWuab⟩ : ∃ W, W = Wua.alloc (.cells #[.int .i64 x1.f0, .int .i64 x1.f1, .bool x1.f2, .slice E3 x1.f3.length q3, .slice E4 x1.f4.length q4, .int .i64 x.f0, .int .i64 x.f1, .bool x.f2, .slice A3 x.f3.length c3, .slice A4 x.f4.length c4] 33) := ⟨_, rfl⟩
        rw [← hWuab]
        have hBuab : Below Wua.heap.size Wua Wuab := by rw [hWuab]; exact below_alloc (Below.refl _ _) _
        have HBuab := Lib.hid ((HBua.out).trans (hBuab.mono (HBua.out).size))
        have HNuab : Hid (Wuab.heap[Wua.heap.size]? = some (.cells #[.int .i64 x1.f0, .int .i64 x1.f1, .bool x1.f2, .slice E3 x1.f3.length q3, .slice E4 x1.f4.length q4, .int .i64 x.f0, .int .i64 x.f1, .bool x.f2, .slice A3 x.f3.length c3, .slice A4 x.f4.length c4] 33 (0, 0))) := Lib.hid (by rw [hWuab]; exact blk_new _ _)
        have HZuab : Hid (Wuab.heap.size = Wua.heap.size + 1) := Lib.hid (by rw [hWuab]; simp)
        have HLuab := Lib.hid (HLua.out.below hBuab)
        have HAuab := Lib.hid (blk_below HAua.out hBuab)
        clear hWuab hBuab
        refine hK.out _ _ ⟨blk_cell (blk_below HX0d.out HBuab.out) 0, blk_cell (blk_below HX0d.out HBuab.out) 1, blk_cell (blk_below HX0d.out HBuab.out) 2, blk_cell (blk_below HX0d.out HBuab.out) 3, blk_cell (blk_below HX0d.out HBuab.out) 4⟩ (fun hHeld => ?_)
        clear hK K
        refine norm_ (a' := ?_) ?_ ?_
        rotate_left
        · show Act.put _ (some 11) _ = _
          simp only [Act.put, List.setIfInBounds_toArray, List.set_cons_zero, List.set_cons_succ, i64_w, i32_w]
          rfl
        refine one_ (i := 4) (N := some 12) #[yY,yY,yY,yY,yY,yY,nN] rfl rfl (by kernel_rfl) (by decide) (fun K hK => ?_)
        refine goes_ Tryd.func48 (by kernel_rfl) rfl #[.slice (some ⟨Wua.heap.size, 0, none⟩) 2 2] (by rfl) rfl rfl (by simp only [List.map_toArray, List.map_cons, List.map_nil]; rfl) ?_
        with_reducible refine (list_ex _ 2 2 _).mono ?_
        rintro e Wuabl ⟨rfl, hBuabl⟩
        refine ⟨_, rfl, ?_⟩
        have HBuabl := Lib.hid ((HBuab.out).trans (hBuabl.mono (HBuab.out).size))
        have HZuabl := Lib.hid hBuabl.size
        have HLuabl := Lib.hid (HLuab.out.below hBuabl)
        have HNuabl := Lib.hid (blk_below HNuab.out hBuabl)
        have HAuabl := Lib.hid (blk_below HAuab.out hBuabl)
        clear hBuabl
        refine hK.out _ _ ⟨blk_cell (blk_below HX0d.out HBuabl.out) 0, blk_cell (blk_below HX0d.out HBuabl.out) 1, blk_cell (blk_below HX0d.out HBuabl.out) 2, blk_cell (blk_below HX0d.out HBuabl.out) 3, blk_cell (blk_below HX0d.out HBuabl.out) 4⟩ (fun hHeld => ?_)
        clear hK K
        refine norm_ (a' := ?_) ?_ ?_
        rotate_left
        · show Act.put _ (some 12) _ = _
          simp only [Act.put, List.setIfInBounds_toArray, List.set_cons_zero, List.set_cons_succ, i64_w, i32_w]
          rfl
        exact norm_ (by simp only [putAll, Act.put, List.setIfInBounds_toArray, List.set_cons_zero, List.set_cons_succ]) (hCont (E3, q3, E4, q4, Wua.heap.size, Wu.heap.size) _ ⟨HBuabl.out, HLuabl.out.mono (fun k hk => by dsimp only at hk ⊢; have z1 := HZu.out; have z2 := HZua.out; have z3 := HZuab.out; have z4 := HZuabl.out; have z5 := HBR.out.size; omega), HNuabl.out, HAuabl.out, by dsimp only; have z1 := HZu.out; have z2 := HZua.out; have z3 := HZuab.out; have z4 := HZuabl.out; omega⟩)
    · skip
      refine value_ (w1 := ?_) (v := ?_) (by rfl) rfl ?_ ?_
      rotate_left 2
      · go_simp
        constructor
        · rfl
        · rfl
      obtain ⟨Wa, hWa⟩ : ∃ W, W = W1.alloc (.cells #[.int .i64 0, .int .i64 0, .bool false, .slice none 0 0, .slice none 0 0] 33) := ⟨_, rfl⟩
      rw [← hWa]
      have hBa : Below W1.heap.size W1 Wa := by rw [hWa]; exact below_alloc (Below.refl _ _) _
      have HBa := Lib.hid ((HBR.out).trans (hBa.mono (HBR.out).size))
      have HAa : Hid (Wa.heap[W1.heap.size]? = some (.cells #[.int .i64 0, .int .i64 0, .bool false, .slice none 0 0, .slice none 0 0] 33 (0, 0))) := Lib.hid (by rw [hWa]; exact blk_new _ _)
      have HZa : Hid (Wa.heap.size = W1.heap.size + 1) := Lib.hid (by rw [hWa]; simp)
      clear hWa hBa
      refine hK.out _ _ ⟨blk_cell (blk_below HX0d.out HBa.out) 0, blk_cell (blk_below HX0d.out HBa.out) 1, blk_cell (blk_below HX0d.out HBa.out) 2, blk_cell (blk_below HX0d.out HBa.out) 3, blk_cell (blk_below HX0d.out HBa.out) 4⟩ (fun hHeld => ?_)
      clear hK K
      refine norm_ (a' := ?_) ?_ ?_
      rotate_left
      · show Act.put _ (some 7) _ = _
        simp only [Act.put, List.setIfInBounds_toArray, List.set_cons_zero, List.set_cons_succ, i64_w, i32_w]
        rfl
      refine one_ (i := 1) (N := some 9) #[yY,yY,yY,nN,nN,yY,nN] rfl rfl (by kernel_rfl) (by decide) (fun K hK => ?_)
      refine goes_ Tryd.func54 (by kernel_rfl) rfl #[.int .i64 id] (by rfl) rfl rfl (by simp only [List.map_toArray, List.map_cons, List.map_nil]; rfl) ?_
      with_reducible refine (HNU.out _).mono ?_
      rintro e Wau hau
      obtain ⟨E3, q3, E4, q4, rfl, hlau, hBau⟩ := hau.open
      refine ⟨_, rfl, ?_⟩
      have HBau := Lib.hid ((HBa.out).trans (hBau.mono (HBa.out).size))
      have HLau := Lib.hid hlau.o
      have HZau := Lib.hid hBau.size
      have HAau := Lib.hid (blk_below HAa.out hBau)
      clear hau hlau hBau
      refine hK.out _ _ ⟨blk_cell (blk_below HX0d.out HBau.out) 0, blk_cell (blk_below HX0d.out HBau.out) 1, blk_cell (blk_below HX0d.out HBau.out) 2, blk_cell (blk_below HX0d.out HBau.out) 3, blk_cell (blk_below HX0d.out HBau.out) 4⟩ (fun hHeld => ?_)
      clear hK K
      refine norm_ (a' := ?_) ?_ ?_
      rotate_left
      · show Act.put _ (some 9) _ = _
        simp only [Act.put, List.setIfInBounds_toArray, List.set_cons_zero, List.set_cons_succ, i64_w, i32_w]
        rfl
      refine one_ (i := 3) (N := some 11) #[yY,yY,yY,yY,nN,yY,nN] rfl rfl (by kernel_rfl) (by decide) (fun K hK => ?_)
      refine value_ (w1 := ?_) (v := ?_) (by rfl) rfl ?_ ?_
      rotate_left 2
      · go_simp
        constructor
        · rfl
        · rfl
      obtain ⟨Waub, hWaub⟩ : ∃ W, W = Wau.alloc (.cells #[.int .i64 x1.f0, .int .i64 x1.f1, .bool x1.f2, .slice E3 x1.f3.length q3, .slice E4 x1.f4.length q4, .int .i64 x.f0, .int .i64 x.f1, .bool x.f2, .slice A3 x.f3.length c3, .slice A4 x.f4.length c4] 33) := ⟨_, rfl⟩
      rw [← hWaub]
      have hBaub : Below Wau.heap.size Wau Waub := by rw [hWaub]; exact below_alloc (Below.refl _ _) _
      have HBaub := Lib.hid ((HBau.out).trans (hBaub.mono (HBau.out).size))
      have HNaub : Hid (Waub.heap[Wau.heap.size]? = some (.cells #[.int .i64 x1.f0, .int .i64 x1.f1, .bool x1.f2, .slice E3 x1.f3.length q3, .slice E4 x1.f4.length q4, .int .i64 x.f0, .int .i64 x.f1, .bool x.f2, .slice A3 x.f3.length c3, .slice A4 x.f4.length c4] 33 (0, 0))) := Lib.hid (by rw [hWaub]; exact blk_new _ _)
      have HZaub : Hid (Waub.heap.size = Wau.heap.size + 1) := Lib.hid (by rw [hWaub]; simp)
      have HLaub := Lib.hid (HLau.out.below hBaub)
      have HAaub := Lib.hid (blk_below HAau.out hBaub)
      clear hWaub hBaub
      refine hK.out _ _ ⟨blk_cell (blk_below HX0d.out HBaub.out) 0, blk_cell (blk_below HX0d.out HBaub.out) 1, blk_cell (blk_below HX0d.out HBaub.out) 2, blk_cell (blk_below HX0d.out HBaub.out) 3, blk_cell (blk_below HX0d.out HBaub.out) 4⟩ (fun hHeld => ?_)
      clear hK K
      refine norm_ (a' := ?_) ?_ ?_
      rotate_left
      · show Act.put _ (some 11) _ = _
        simp only [Act.put, List.setIfInBounds_toArray, List.set_cons_zero, List.set_cons_succ, i64_w, i32_w]
        rfl
      refine one_ (i := 4) (N := some 12) #[yY,yY,yY,yY,yY,yY,nN] rfl rfl (by kernel_rfl) (by decide) (fun K hK => ?_)
      refine goes_ Tryd.func48 (by kernel_rfl) rfl #[.slice (some ⟨Wau.heap.size, 0, none⟩) 2 2] (by rfl) rfl rfl (by simp only [List.map_toArray, List.map_cons, List.map_nil]; rfl) ?_
      with_reducible refine (list_ex _ 2 2 _).mono ?_
      rintro e Waubl ⟨rfl, hBaubl⟩
      refine ⟨_, rfl, ?_⟩
      have HBaubl := Lib.hid ((HBaub.out).trans (hBaubl.mono (HBaub.out).size))
      have HZaubl := Lib.hid hBaubl.size
      have HLaubl := Lib.hid (HLaub.out.below hBaubl)
      have HNaubl := Lib.hid (blk_below HNaub.out hBaubl)
      have HAaubl := Lib.hid (blk_below HAaub.out hBaubl)
      clear hBaubl
      refine hK.out _ _ ⟨blk_cell (blk_below HX0d.out HBaubl.out) 0, blk_cell (blk_below HX0d.out HBaubl.out) 1, blk_cell (blk_below HX0d.out HBaubl.out) 2, blk_cell (blk_below HX0d.out HBaubl.out) 3, blk_cell (blk_below HX0d.out HBaubl.out) 4⟩ (fun hHeld => ?_)
      clear hK K
      refine norm_ (a' := ?_) ?_ ?_
      rotate_left
      · show Act.put _ (some 12) _ = _
        simp only [Act.put, List.setIfInBounds_toArray, List.set_cons_zero, List.set_cons_succ, i64_w, i32_w]
        rfl
      exact norm_ (by simp only [putAll, Act.put, List.setIfInBounds_toArray, List.set_cons_zero, List.set_cons_succ]) (hCont (E3, q3, E4, q4, Wau.heap.size, W1.heap.size) _ ⟨HBaubl.out, HLaubl.out.mono (fun k hk => by dsimp only at hk ⊢; have z1 := HZa.out; have z2 := HZau.out; have z3 := HZaub.out; have z4 := HZaubl.out; have z5 := HBa.out.size; omega), HNaubl.out, HAaubl.out, by dsimp only; have z1 := HZa.out; have z2 := HZau.out; have z3 := HZaub.out; have z4 := HZaubl.out; omega⟩)
  rintro ⟨E3, q3, E4, q4, nb, g⟩ WF ⟨hBF, hLF, hNF, hAF, hgg⟩
  have HBF := Lib.hid hBF
  have HLF := Lib.hid hLF
  have HNF := Lib.hid hNF
  have HAF := Lib.hid hAF
  have HGG : Hid (W1.heap.size ≤ nb ∧ W1.heap.size ≤ g ∧ nb ≠ g) := Lib.hid hgg
  clear hBF hLF hNF hAF hgg
  have hHeld : WF.cell? ⟨w.heap.size, 0, none⟩ = some (.int .i64 x.f0) ∧ WF.cell? ⟨w.heap.size, 1, none⟩ = some (.int .i64 x.f1) ∧ WF.cell? ⟨w.heap.size, 2, none⟩ = some (.bool x.f2) ∧ WF.cell? ⟨w.heap.size, 3, none⟩ = some (.slice A3 x.f3.length c3) ∧ WF.cell? ⟨w.heap.size, 4, none⟩ = some (.slice A4 x.f4.length c4) := ⟨blk_cell (blk_below HX0d.out HBF.out) 0, blk_cell (blk_below HX0d.out HBF.out) 1, blk_cell (blk_below HX0d.out HBF.out) 2, blk_cell (blk_below HX0d.out HBF.out) 3, blk_cell (blk_below HX0d.out HBF.out) 4⟩
  refine norm_ (a' := ?_) ?_ ?_
  rotate_left
  · simp only [putAll, Act.put, List.setIfInBounds_toArray, List.set_cons_zero, List.set_cons_succ]
    rfl
  refine one_ (i := 6) (N := none) #[yY,yY,yY,yY,yY,yY,yY] rfl rfl (by kernel_rfl) (by decide) (fun K hK => ?_)
  have HBZ : Hid (w.heap.size < g) := Lib.hid (by have h1 := HGG.out; have h2 := HS1.out; omega)
  have r0 := blk_cell HAF.out 0
  have r1 := blk_cell HAF.out 1
  have r2 := blk_cell HAF.out 2
  have r3 := blk_cell HAF.out 3
  have r4 := blk_cell HAF.out 4
  have rf0 := blk_frozen HAF.out 0
  have rf1 := blk_frozen HAF.out 1
  have rf2 := blk_frozen HAF.out 2
  have rf3 := blk_frozen HAF.out 3
  have rf4 := blk_frozen HAF.out 4
  refine skip_ (w1 := ?_) (by rfl) rfl ?_ ?_
  rotate_left
  · go_simp
    rfl
  refine hK.out _ _ ⟨blk_cell (far5 (blk_below HX0d.out HBF.out) (by have := HBZ.out; omega) _ _ _ _ _) 0, blk_cell (far5 (blk_below HX0d.out HBF.out) (by have := HBZ.out; omega) _ _ _ _ _) 1, blk_cell (far5 (blk_below HX0d.out HBF.out) (by have := HBZ.out; omega) _ _ _ _ _) 2, blk_cell (far5 (blk_below HX0d.out HBF.out) (by have := HBZ.out; omega) _ _ _ _ _) 3, blk_cell (far5 (blk_below HX0d.out HBF.out) (by have := HBZ.out; omega) _ _ _ _ _) 4⟩ (fun hHeld => ?_)
  clear hK K
  refine done_ (by kernel_rfl) ?_
  obtain ⟨W2, hW2⟩ : ∃ W2, W2 = (((((WF.setCell ⟨g, 0, none⟩ (.int .i64 0)).setCell ⟨g, 1, none⟩ (.int .i64 16)).setCell ⟨g, 2, none⟩ (.bool true)).setCell ⟨g, 3, none⟩ (.slice none 0 0)).setCell ⟨g, 4, none⟩ (.slice (some ⟨nb, 0, none⟩) 2 2)) := ⟨_, rfl⟩
  rw [← hW2]
  have HG2 : Hid (W2.heap[g]? = some (.cells #[.int .i64 0, .int .i64 16, .bool true, .slice none 0 0, .slice (some ⟨nb, 0, none⟩) 2 2] 33 (0, 0))) := Lib.hid (by rw [hW2]; exact set5 HAF.out _ _ _ _ _)
  have hst : ∀ k, k ≠ g → W2.heap[k]? = WF.heap[k]? := fun k hk => by rw [hW2]; exact heap5 hk _ _ _ _ _
  have hBF : Below w.heap.size w WF := HB1.out.trans (HBF.out.mono HB1.out.size)
  have HB2 : Hid (Below w.heap.size w W2) := Lib.hid (by rw [hW2]; exact below5 hBF (Nat.le_of_lt HBZ.out) _ _ _ _ _)
  have HR2 : Hid (W2.heap[w.heap.size + 1]? = some (.cells #[.int .i64 0, .int .i64 0, .bool false, .slice none 0 0, .slice none 0 0] 33 (0, 0))) := Lib.hid (by rw [hst _ (by have h1 := HGG.out; have h2 := HS1.out; omega)]; exact blk_below HR0d.out HBF.out)
  have HN2 : Hid (Kd.N k33 33 W2 (w.heap.size + 2) (fun k => k ≠ w.heap.size + 1 ∧ k ≠ g) (.slice (some ⟨nb, 0, none⟩) 2 2) [x1, x]) := Lib.hid (by
    have h1 := HGG.out
    have h2 := HS1.out
    refine N_two (c1 := cellsP x1 E3 q3 E4 q4) (c2 := cellsP x A3 c3 A4 c4) (by rw [hst nb h1.2.2]; exact HNF.out) (by omega) ⟨by omega, h1.2.2⟩ ?_ ?_
    · exact Kd.FK_mono (HLF.out.step (fun k hk _ => hst k hk.2.2)).fk (fun k hk => ⟨⟨by have := hk.1; omega, hk.2.2⟩, hk.2.1⟩)
    · exact Kd.FK_mono ((HLX.out.below HBF.out).step (fun k hk _ => hst k (by omega))).fk (fun k hk => ⟨⟨by omega, by omega⟩, by omega⟩))
  have HS2 : Hid (WF.heap.size ≤ W2.heap.size) := Lib.hid (by rw [hW2]; simp)
  have HGL : Hid (g < W2.heap.size) := Lib.hid (blk_lt HG2.out)
  have HRL : Hid (w.heap.size + 1 < W2.heap.size) := Lib.hid (blk_lt HR2.out)
  clear hHeld
  clear hW2 hst hBF r0 r1 r2 r3 r4 rf0 rf1 rf2 rf3 rf4
  clear HAF HNF HLF HBF HX0d HR0d HX0 HR0 HBR
  rcases Nat.eq_zero_or_pos ss.length with h0 | h0
  · have e1 : decide (0 < (ss.length : Int)) = false := decide_eq_false (by omega)
    have e2 : decide (0 < ss.length) = false := decide_eq_false (by omega)
    have HM0 : Hid (y = tL [x1, x]) := Lib.hid (by rw [HM.out, List.eq_nil_of_length_eq_zero h0]; rfl)
    have s0 : W2.cell? ⟨g, 0, none⟩ = some (.int .i64 0) := blk_cell HG2.out 0
    have s1 : W2.cell? ⟨g, 1, none⟩ = some (.int .i64 16) := blk_cell HG2.out 1
    have s2 : W2.cell? ⟨g, 2, none⟩ = some (.bool true) := blk_cell HG2.out 2
    have s3 : W2.cell? ⟨g, 3, none⟩ = some (.slice none 0 0) := blk_cell HG2.out 3
    have s4 : W2.cell? ⟨g, 4, none⟩ = some (.slice (some ⟨nb, 0, none⟩) 2 2) := blk_cell HG2.out 4
    have p0 : W2.cell? ⟨w.heap.size + 1, 0, none⟩ = some (.int .i64 0) := blk_cell HR2.out 0
    have p1 : W2.cell? ⟨w.heap.size + 1, 1, none⟩ = some (.int .i64 0) := blk_cell HR2.out 1
    have p2 : W2.cell? ⟨w.heap.size + 1, 2, none⟩ = some (.bool false) := blk_cell HR2.out 2
    have p3 : W2.cell? ⟨w.heap.size + 1, 3, none⟩ = some (.slice none 0 0) := blk_cell HR2.out 3
    have p4 : W2.cell? ⟨w.heap.size + 1, 4, none⟩ = some (.slice none 0 0) := blk_cell HR2.out 4
    have pf0 : W2.frozen? ⟨w.heap.size + 1, 0, none⟩ = false := blk_frozen HR2.out 0
    have pf1 : W2.frozen? ⟨w.heap.size + 1, 1, none⟩ = false := blk_frozen HR2.out 1
    have pf2 : W2.frozen? ⟨w.heap.size + 1, 2, none⟩ = false := blk_frozen HR2.out 2
    have pf3 : W2.frozen? ⟨w.heap.size + 1, 3, none⟩ = false := blk_frozen HR2.out 3
    have pf4 : W2.frozen? ⟨w.heap.size + 1, 4, none⟩ = false := blk_frozen HR2.out 4
    clear h0
    go_wp2
    try simp only [Exit.inBlock, Exit.then]
    exact bodyPost_ret (results_c rfl _ _ _ _ _ _ _ rfl (set5 HR2.out (.int .i64 0) (.int .i64 16) (.bool true) (.slice none 0 0) (.slice (some ⟨nb, 0, none⟩) 2 2)) Tryd.underlying33 rfl size33) rfl (by rw [HM0.out]; exact msg_end HB2.out HN2.out (some ⟨nb, 0, none⟩) 2 rfl (Nat.le_refl _))
  · have e1 : decide (0 < (ss.length : Int)) = true := decide_eq_true (by omega)
    have e2 : decide (0 < ss.length) = true := decide_eq_true (by omega)
    obtain ⟨z, hz⟩ : ∃ z : S33, z = ⟨2, 0, true, [], ss⟩ := ⟨_, rfl⟩
    have HM0 : Hid (y = tL ([x1, x] ++ [z])) := Lib.hid (by
      rw [HM.out, hz]
      cases hss : ss with
      | nil => rw [hss] at h0; simp at h0
      | cons _ _ => rfl)
    have HK2 : Hid (Kd.FK k33 W2 (fun k => (k ≠ w.heap.size + 1 ∧ k ≠ g) ∧ some k ≠ (Value.slice (some ⟨nb, 0, none⟩) 2 2).ownBlock) z [.int .i64 2, .int .i64 0, .bool true, .slice none 0 0, .slice A5 ss.length c5]) := Lib.hid (by
      have h1 := HGG.out
      have h2 := HS1.out
      have hl : LiesO (fun k => k < w.heap.size) W2 z none 0 A5 c5 := by rw [hz]; exact ⟨Nat.le_refl _, Kd.F_nil _ _ _, HL5.out, Kd.F_below HSS0.out HB2.out⟩
      have hf := hl.fk
      rw [hz] at hf ⊢
      exact Kd.FK_mono hf (fun k hk => ⟨⟨by omega, by have := HBZ.out; omega⟩, fun he => by
        have : k = nb := by simpa [Value.ownBlock] using he
        omega⟩))
    have HFR : Hid (∀ k, W2.heap.size ≤ k → k ≠ w.heap.size + 1 ∧ k ≠ g) := Lib.hid (fun k hk => ⟨by have := HRL.out; omega, by have := HGL.out; omega⟩)
    have HLO : Hid (w.heap.size + 2 ≤ W2.heap.size) := Lib.hid (by have := HRL.out; omega)
    have HNE : Hid (some g ≠ (Value.slice (some ⟨nb, 0, none⟩) 2 2).ownBlock) := Lib.hid (fun he => by
      have h1 := HGG.out
      have : g = nb := by simpa [Value.ownBlock] using he
      omega)
    have HNR : Hid (some (w.heap.size + 1) ≠ (Value.slice (some ⟨nb, 0, none⟩) 2 2).ownBlock) := Lib.hid (fun he => by
      have h1 := HGG.out
      have h2 := HS1.out
      have : w.heap.size + 1 = nb := by simpa [Value.ownBlock] using he
      omega)
    have k4 : W2.cell? ⟨g, 4, none⟩ = some (.slice (some ⟨nb, 0, none⟩) 2 2) := blk_cell HG2.out 4
    clear h0 hz
    go_upto_region 4 with (first
      | ((with_reducible refine gate_builtin (b := .append) (xs := #[.tmp 17, .tmp 20]) rfl ?_)
         at_builtin
         refine Kd.N_append k33 (w0 := W2) (W := W2) (w.heap.size + 2) rfl (.tmp 17) (.tmp 20) 31 33 (.agg #[.int .i64 0, .int .i64 0, .bool false, .slice none 0 0, .slice none 0 0]) 72 rfl Tryd.underlying31 info_sp rfl (show 0 < 5 by decide) (by decide) (.slice (some ⟨nb, 0, none⟩) 2 2) [x1, x] z _ (fun k => k ≠ w.heap.size + 1 ∧ k ≠ g) _ rfl rfl HK2.out (fun _ h => h) HFR.out HN2.out (Below.refl _ _) HLO.out (show (2 + 1) * 72 ≤ 140737488355328 by decide) ?_
         intro v1 w1 hR hb hg hat
         have HG8 := Lib.hid (blk_grown HG2.out hg HNE.out)
         have HR8 := Lib.hid (blk_grown HR2.out hg HNR.out)
         have x0 : w1.cell? ⟨g, 4, none⟩ = some (.slice (some ⟨nb, 0, none⟩) 2 2) := blk_cell HG8.out 4
         have xf : w1.frozen? ⟨g, 4, none⟩ = false := blk_frozen HG8.out 4
         obtain ⟨Aq, cq, hvq⟩ := Kd.N_slice hR
         obtain ⟨n, hn⟩ : ∃ n, n = ([x1, x] ++ [z]).length := ⟨_, rfl⟩
         rw [← hn] at hvq
         subst hvq
         have HN8 := Lib.hid hR
         have HB8 : Hid (Below w.heap.size w w1) := Lib.hid (HB2.out.trans (hb.mono (by omega)))
         have HN := Lib.hid hn
         clear hR hb hg hat hn))
    obtain ⟨W5, hW5⟩ : ∃ W5, W5 = w1.setCell ⟨g, 4, none⟩ (.slice Aq n cq) := ⟨_, rfl⟩
    rw [← hW5]
    have HG5 : Hid (W5.heap[g]? = some (.cells #[.int .i64 0, .int .i64 16, .bool true, .slice none 0 0, .slice Aq n cq] 33 (0, 0))) := Lib.hid (by rw [hW5]; exact blk_set HG8.out 4 _)
    have HR5 : Hid (W5.heap[w.heap.size + 1]? = some (.cells #[.int .i64 0, .int .i64 0, .bool false, .slice none 0 0, .slice none 0 0] 33 (0, 0))) := Lib.hid (by rw [hW5]; exact blk_far HR8.out (p := ⟨g, 4, none⟩) (by have h1 := HGG.out; have h2 := HS1.out; show w.heap.size + 1 ≠ g; omega) _)
    have HN5 : Hid (Kd.N k33 33 W5 (w.heap.size + 2) (fun k => k ≠ w.heap.size + 1 ∧ k ≠ g) (.slice Aq n cq) ([x1, x] ++ [z])) := Lib.hid (by rw [hW5]; exact Kd.N_far HN8.out (p := ⟨g, 4, none⟩) (fun k hk => hk.2) _)
    have HB5 : Hid (Below w.heap.size w W5) := Lib.hid (by rw [hW5]; exact HB8.out.setCell (p := ⟨g, 4, none⟩) (Nat.le_of_lt HBZ.out) _)
    have s0 : W5.cell? ⟨g, 0, none⟩ = some (.int .i64 0) := blk_cell HG5.out 0
    have s1 : W5.cell? ⟨g, 1, none⟩ = some (.int .i64 16) := blk_cell HG5.out 1
    have s2 : W5.cell? ⟨g, 2, none⟩ = some (.bool true) := blk_cell HG5.out 2
    have s3 : W5.cell? ⟨g, 3, none⟩ = some (.slice none 0 0) := blk_cell HG5.out 3
    have s4 : W5.cell? ⟨g, 4, none⟩ = some (.slice Aq n cq) := blk_cell HG5.out 4
    have p0 : W5.cell? ⟨w.heap.size + 1, 0, none⟩ = some (.int .i64 0) := blk_cell HR5.out 0
    have p1 : W5.cell? ⟨w.heap.size + 1, 1, none⟩ = some (.int .i64 0) := blk_cell HR5.out 1
    have p2 : W5.cell? ⟨w.heap.size + 1, 2, none⟩ = some (.bool false) := blk_cell HR5.out 2
    have p3 : W5.cell? ⟨w.heap.size + 1, 3, none⟩ = some (.slice none 0 0) := blk_cell HR5.out 3
    have p4 : W5.cell? ⟨w.heap.size + 1, 4, none⟩ = some (.slice none 0 0) := blk_cell HR5.out 4
    have pf0 : W5.frozen? ⟨w.heap.size + 1, 0, none⟩ = false := blk_frozen HR5.out 0
    have pf1 : W5.frozen? ⟨w.heap.size + 1, 1, none⟩ = false := blk_frozen HR5.out 1
    have pf2 : W5.frozen? ⟨w.heap.size + 1, 2, none⟩ = false := blk_frozen HR5.out 2
    have pf3 : W5.frozen? ⟨w.heap.size + 1, 3, none⟩ = false := blk_frozen HR5.out 3
    have pf4 : W5.frozen? ⟨w.heap.size + 1, 4, none⟩ = false := blk_frozen HR5.out 4
    clear hW5 x0 xf k4
    go_wp2
    try simp only [Exit.inBlock, Exit.then]
    exact bodyPost_ret (results_c rfl _ _ _ _ _ _ _ rfl (set5 HR5.out (.int .i64 0) (.int .i64 16) (.bool true) (.slice none 0 0) (.slice Aq n cq)) Tryd.underlying33 rfl size33) rfl (by rw [HM0.out, HN.out]; exact msg_end HB5.out (HN.out ▸ HN5.out) Aq cq rfl (by
      obtain ⟨_, _, he, hc, _⟩ := Kd.N_reads (HN.out ▸ HN5.out : Kd.N k33 33 W5 (w.heap.size + 2) (fun k => k ≠ w.heap.size + 1 ∧ k ≠ g) (.slice Aq ([x1, x] ++ [z]).length cq) ([x1, x] ++ [z]))
      injection he with h1 h2 h3
      rw [h3]
      exact hc))
end Go.Proofs.YtbmcpjkhnhbjdaaDoor.Ber
namespace Go.Proofs.YtbmcpjkhnhbjdaaDoor.PFnEncode
open Go.RowKit Go.Proofs.YtbmcpjkhnhbjdaaDoorW.PrintWords Go.Proofs.YtbmcpjkhnhbjdaaDoorW.PrintLast Go.Proofs.YtbmcpjkhnhbjdaaDoorW.PrintMore
attribute [local go_sem] max2_int min2_int max_two min_two max_three min_three max_four min_four   -- for this text's walks alone
set_option linter.unusedVariables false
set_option linter.unusedSimpArgs false

-- NOT PRINTED: function 74 (spec_Control)

/-! ### spec_Dotted: function 75 -/
def spec_Dotted.l0 : Nat → ByteArray → Int → Int → Option (Bool)
  | 0, _, _, _ => none
  | k + 1, x0, x5, x6 => if x6 < x5 then (if 0 ≤ x6 then (if x6 < (x0.size : Int) then (if (bt x0 x6) = 46 then (spec_Dotted.l0 k x0 x5 (wrap64 (x6 + 1))) else (if (bt x0 x6) < 48 then (some false) else (if (bt x0 x6) > 57 then (some false) else (spec_Dotted.l0 k x0 x5 (wrap64 (x6 + 1)))))) else (none)) else (none)) else (if x0.toList = ([] : List UInt8) then (some false) else (if 0 < (x0.size : Int) then (some ((bt x0 0) == 57)) else (none)))
def spec_Dotted.f (k : Nat) (a0 : ByteArray) : Option (Bool) := spec_Dotted.l0 k a0 (a0.size : Int) 0
set_option maxHeartbeats 8000000 in
set_option maxRecDepth 100000 in
theorem spec_Dotted.calls (k : Nat) (a0 : ByteArray) (r : Bool) (w : World) (h : spec_Dotted.f k a0 = some r) :
    Calls Tryd.prog 75 #[.string a0] w fun e w' => e = .returned (.bool r) ∧ Drawn0 w w' := by
  have H : (spec_Dotted.l0 k a0 (a0.size : Int) 0) = some r := h
  clear h
  have H' := Aside0.mk H
  clear H
  go_enter Tryd.func75, Tryd.ntmps75
  go_wp2
  go_loopg [6] k (fun kq v6 w' => ∃ (x6_1 : Int), v6 = .int .i64 x6_1 ∧ Aside0 (spec_Dotted.l0 kq a0 (a0.size : Int) x6_1 = some r) ∧ Aside0 (kq ≤ k) ∧ Drawn0 w w')
  case atStart => exact ⟨(0), (by first | rfl | (simp; done) | (simp [*]; done)), H', ⟨Nat.le_refl _⟩, by repeat (first | exact Drawn0.refl _ | apply Drawn0.step)⟩
  case round =>
    clear H'
    obtain ⟨x6_1, rfl, HA, HK1, ⟨m1, rfl⟩⟩ := hrel
    cases gk with
    | zero => exact absurd HA.out (by simp [spec_Dotted.l0])
    | succ k1 =>
      have H := HA.out
      clear HA
      simp only [spec_Dotted.l0] at H
      by_cases c2 : x6_1 < (a0.size : Int)
      · rw [if_pos c2] at H
        have c2b0 : decide (x6_1 < (a0.size : Int)) = true := decide_eq_true c2
        clear c2
        by_cases c3 : 0 ≤ x6_1
        · rw [if_pos c3] at H
          have c3b0 : decide (0 ≤ x6_1) = true := decide_eq_true c3
          clear c3
          by_cases c4 : x6_1 < (a0.size : Int)
          · rw [if_pos c4] at H
            have c4b0 : decide (x6_1 < (a0.size : Int)) = true := decide_eq_true c4
            clear c4
            by_cases c6 : (bt a0 x6_1) = 46
            · rw [if_pos c6] at H
              have c6b0 : ((bt a0 x6_1) == 46) = true := beq_iff_eq.mpr c6
              have c6b1 : ((bt a0 x6_1) != 46) = false := bne_eq_false_iff_eq.mpr c6
              clear c6
              have H' := Aside0.mk H
              clear H
              have p5 : 0 ≤ (x6_1 : Int) := of_decide_eq_true (by first | (with_reducible assumption) | assumption)
              have q5 : x6_1 < (a0.size : Int) := of_decide_eq_true (by first | (with_reducible assumption) | assumption)
              have hx5 := bt_at a0 x6_1
              replace p5 := eq_true p5
              replace q5 := eq_true q5
              go_wp2
              go_roundg k1
              case measure => have := HK1.out; omega
              case rel => exact ⟨(wrap64 (x6_1 + 1)), (by first | rfl | (simp; done) | (simp [*]; done)), H', ⟨by have := HK1.out; omega⟩, by repeat (first | exact Drawn0.refl _ | apply Drawn0.step)⟩
            · rw [if_neg c6] at H
              have c6b0 : ((bt a0 x6_1) == 46) = false := beq_eq_false_iff_ne.mpr c6
              have c6b1 : ((bt a0 x6_1) != 46) = true := bne_iff_ne.mpr c6
              by_cases c8 : (bt a0 x6_1) < 48
              · rw [if_pos c8] at H
                have c8b0 : decide ((bt a0 x6_1) < 48) = true := decide_eq_true c8
                clear c8
                obtain rfl := Option.some.inj H
                have p5 : 0 ≤ (x6_1 : Int) := of_decide_eq_true (by first | (with_reducible assumption) | assumption)
                have q5 : x6_1 < (a0.size : Int) := of_decide_eq_true (by first | (with_reducible assumption) | assumption)
                have hx5 := bt_at a0 x6_1
                replace p5 := eq_true p5
                replace q5 := eq_true q5
                have p7 : 0 ≤ (x6_1 : Int) := of_decide_eq_true (by first | (with_reducible assumption) | assumption)
                have q7 : x6_1 < (a0.size : Int) := of_decide_eq_true (by first | (with_reducible assumption) | assumption)
                have hx7 := bt_at a0 x6_1
                replace p7 := eq_true p7
                replace q7 := eq_true q7
                go_wp2
                go_ret
                exact ⟨by first | rfl | (simp; done) | (simp [*]; done), by repeat (first | exact Drawn0.refl _ | apply Drawn0.step)⟩
              · rw [if_neg c8] at H
                have c8b0 : decide ((bt a0 x6_1) < 48) = false := decide_eq_false c8
                clear c8
                by_cases c10 : (bt a0 x6_1) > 57
                · rw [if_pos c10] at H
                  have c10b0 : decide (57 < (bt a0 x6_1)) = true := decide_eq_true c10
                  clear c10
                  obtain rfl := Option.some.inj H
                  have p5 : 0 ≤ (x6_1 : Int) := of_decide_eq_true (by first | (with_reducible assumption) | assumption)
                  have q5 : x6_1 < (a0.size : Int) := of_decide_eq_true (by first | (with_reducible assumption) | assumption)
                  have hx5 := bt_at a0 x6_1
                  replace p5 := eq_true p5
                  replace q5 := eq_true q5
                  have p7 : 0 ≤ (x6_1 : Int) := of_decide_eq_true (by first | (with_reducible assumption) | assumption)
                  have q7 : x6_1 < (a0.size : Int) := of_decide_eq_true (by first | (with_reducible assumption) | assumption)
                  have hx7 := bt_at a0 x6_1
                  replace p7 := eq_true p7
                  replace q7 := eq_true q7
                  have p9 : 0 ≤ (x6_1 : Int) := of_decide_eq_true (by first | (with_reducible assumption) | assumption)
                  have q9 : x6_1 < (a0.size : Int) := of_decide_eq_true (by first | (with_reducible assumption) | assumption)
                  have hx9 := bt_at a0 x6_1
                  replace p9 := eq_true p9
                  replace q9 := eq_true q9
                  go_wp2
                  go_ret
                  exact ⟨by first | rfl | (simp; done) | (simp [*]; done), by repeat (first | exact Drawn0.refl _ | apply Drawn0.step)⟩
                · rw [if_neg c10] at H
                  have c10b0 : decide (57 < (bt a0 x6_1)) = false := decide_eq_false c10
                  clear c10
                  have H' := Aside0.mk H
                  clear H
                  have p5 : 0 ≤ (x6_1 : Int) := of_decide_eq_true (by first | (with_reducible assumption) | assumption)
                  have q5 : x6_1 < (a0.size : Int) := of_decide_eq_true (by first | (with_reducible assumption) | assumption)
                  have hx5 := bt_at a0 x6_1
                  replace p5 := eq_true p5
                  replace q5 := eq_true q5
                  have p7 : 0 ≤ (x6_1 : Int) := of_decide_eq_true (by first | (with_reducible assumption) | assumption)
                  have q7 : x6_1 < (a0.size : Int) := of_decide_eq_true (by first | (with_reducible assumption) | assumption)
                  have hx7 := bt_at a0 x6_1
                  replace p7 := eq_true p7
                  replace q7 := eq_true q7
                  have p9 : 0 ≤ (x6_1 : Int) := of_decide_eq_true (by first | (with_reducible assumption) | assumption)
                  have q9 : x6_1 < (a0.size : Int) := of_decide_eq_true (by first | (with_reducible assumption) | assumption)
                  have hx9 := bt_at a0 x6_1
                  replace p9 := eq_true p9
                  replace q9 := eq_true q9
                  go_wp2
                  go_roundg k1
                  case measure => have := HK1.out; omega
                  case rel => exact ⟨(wrap64 (x6_1 + 1)), (by first | rfl | (simp; done) | (simp [*]; done)), H', ⟨by have := HK1.out; omega⟩, by repeat (first | exact Drawn0.refl _ | apply Drawn0.step)⟩
          · rw [if_neg c4] at H
            exact absurd H (by simp)
        · rw [if_neg c3] at H
          exact absurd H (by simp)
      · rw [if_neg c2] at H
        have c2b0 : decide (x6_1 < (a0.size : Int)) = false := decide_eq_false c2
        clear c2
        by_cases c11 : a0.toList = ([] : List UInt8)
        · rw [if_pos c11] at H
          have c11b0 : (a0.toList == ([] : List UInt8)) = true := beq_iff_eq.mpr c11
          have c11b1 : (a0.toList != ([] : List UInt8)) = false := bne_eq_false_iff_eq.mpr c11
          clear c11
          obtain rfl := Option.some.inj H
          go_wp2
          go_ret
          exact ⟨by first | rfl | (simp; done) | (simp [*]; done), by repeat (first | exact Drawn0.refl _ | apply Drawn0.step)⟩
        · rw [if_neg c11] at H
          have c11b0 : (a0.toList == ([] : List UInt8)) = false := beq_eq_false_iff_ne.mpr c11
          have c11b1 : (a0.toList != ([] : List UInt8)) = true := bne_iff_ne.mpr c11
          by_cases c12 : 0 < (a0.size : Int)
          · rw [if_pos c12] at H
            have c12b0 : decide (0 < (a0.size : Int)) = true := decide_eq_true c12
            have c12b1 : decide (0 < a0.size) = true := decide_eq_true (by omega)
            clear c12
            obtain rfl := Option.some.inj H
            have p13 : 0 ≤ (0 : Int) := (by omega)
            have q13 : 0 < a0.size := (by have : (0 : Int) < (a0.size : Int) := of_decide_eq_true (by first | (with_reducible assumption) | assumption); omega)
            have hx13 : ∀ h : 0 < a0.size, ((a0[0]'h).toNat : Int) = bt a0 0 := bt_at a0 0
            clear p13
            have qi13 : (0 < (a0.size : Int)) = True := eq_true (of_decide_eq_true (by first | (with_reducible assumption) | assumption))
            replace q13 := eq_true q13
            go_wp2
            go_ret
            exact ⟨by first | rfl | (simp; done) | (simp [*]; done), by repeat (first | exact Drawn0.refl _ | apply Drawn0.step)⟩
          · rw [if_neg c12] at H
            exact absurd H (by simp)

-- NOT PRINTED: function 76 (spec_Paging)

-- NOT PRINTED: function 39 (laws_control)

-- NOT PRINTED: function 40 (impl_Message)

-- NOT PRINTED: function 41 (spec_Message)

-- NOT PRINTED: function 9 (laws_FnMessage)

end Go.Proofs.YtbmcpjkhnhbjdaaDoor.PFnEncode
