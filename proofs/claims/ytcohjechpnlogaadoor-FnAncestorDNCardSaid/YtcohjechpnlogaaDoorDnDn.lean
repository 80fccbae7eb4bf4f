/- (*DN).Equal, EqualFold, AncestorOf and AncestorOfFold. -/
import Derived.Test.YtcohjechpnlogaaDoorDnRdn
import Derived.StillTailTactics
namespace Go.Proofs.YtcohjechpnlogaaDoor.Dn
open Go.RowKit Go.Proofs.YtcohjechpnlogaaDoorW.PrintWords Go.Proofs.YtcohjechpnlogaaDoor.PDN
set_option linter.unusedVariables false
set_option linter.unusedSimpArgs false

/-- parts are equal one by one -/
def allEq (fold : Bool) : List (List S53) → List (List S53) → Bool
  | r :: rs, s :: ss => rdnEq fold r s && allEq fold rs ss
  | _, _ => true
def dnEq (fold : Bool) (X Y : List (List S53)) : Bool := if X.length ≠ Y.length then false else allEq fold X Y
/-- a name whose parts are few and plain -/
structure GoodD (X : List (List S53)) : Prop where
  len : X.length < 1000
  part : ∀ r ∈ X, r.length < 1000 ∧ ∀ x ∈ r, PlainA x

set_option maxHeartbeats 800000 in
set_option maxRecDepth 100000 in
theorem dn_equal (X Y : List (List S53)) (b c : Nat) (w : World) (hX : IsD w b X) (hY : IsD w c Y) (gX : GoodD X) (gY : GoodD Y) :
    Calls Tryd.prog 35 #[.pointer (some ⟨b, 0, none⟩), .pointer (some ⟨c, 0, none⟩)] w fun e w' => e = .returned (.bool (dnEq false X Y)) ∧ Below w.heap.size w w' := by
  obtain ⟨AX, cX, hb, lX, hCX⟩ := hX
  obtain ⟨AY, cY, hc, lY, hCY⟩ := hY
  have r0 : w.cell? ⟨b, 0, none⟩ = some (.slice AX X.length cX) := blk_cell hb 0
  have s0 : w.cell? ⟨c, 0, none⟩ = some (.slice AY Y.length cY) := blk_cell hc 0
  have HBB := Lib.hid hb
  have HCC := Lib.hid hc
  have HCX := Lib.hid hCX
  have HCY := Lib.hid hCY
  have HGX := Lib.hid gX
  have HGY := Lib.hid gY
  have nX := gX.len
  have nY := gY.len
  obtain ⟨fin, hfin⟩ : ∃ fin, fin = dnEq false X Y := ⟨_, rfl⟩
  rw [← hfin]
  have HF := Lib.hid hfin
  clear hb hc hCX hCY lX lY hfin gX gY
  by_cases hl : X.length = Y.length
  · have hfin : Hid (fin = allEq false X Y) := Lib.hid (by rw [HF.out, dnEq, if_neg (fun h => h hl)])
    clear HF
    obtain ⟨n, hn⟩ : ∃ n, n = Y.length := ⟨_, rfl⟩
    rw [← hn] at hl s0 nY
    rw [hl] at r0 nX
    have HLX := Lib.hid hl
    have HLY := Lib.hid hn
    clear hl hn nX
    go_enter Tryd.func35, Tryd.ntmps35
    go_wp2
    go_quiet (fail)
    go_wp2
    have HB0 : Hid (Below w.heap.size w (w.drewN nq)) := Lib.hid (pw_below_drewN (Below.refl _ _) _)
    go_loopw [22] (fun iv wr => ∃ k : Nat, iv = .int .i64 k ∧ k ≤ n ∧ Hid (Below w.heap.size w wr) ∧ Hid (fin = allEq false (X.drop k) (Y.drop k))) (fun iv _ => n - (intOf iv).toNat)
    case atStart => exact ⟨0, rfl, Nat.zero_le _, HB0, hfin⟩
    case round =>
      obtain ⟨k, rfl, hk, HBr, HFr⟩ := hrel
      clear HB0 hfin
      by_cases hlt : k < n
      · have hkX : k < X.length := by rw [HLX.out]; exact hlt
        have hkY : k < Y.length := by rw [← HLY.out]; exact hlt
        obtain ⟨adx, bx, rfl, hcx, hix⟩ := at_R HCX.out k hkX hkX
        obtain ⟨ady, by', rfl, hcy, hiy⟩ := at_R HCY.out k hkY hkY
        have hcx' := (HBr.out.cell (World.block_lt_of_cell? w _ hcx)).trans hcx
        have hcy' := (HBr.out.cell (World.block_lt_of_cell? w _ hcy)).trans hcy
        have r1 : wr.cell? ⟨b, 0, none⟩ = some (.slice (some adx) n cX) := (blk_cell (blk_below HBB.out HBr.out) 0).trans (by rw [← HLX.out]; rfl)
        have s1 : wr.cell? ⟨c, 0, none⟩ = some (.slice (some ady) n cY) := (blk_cell (blk_below HCC.out HBr.out) 0).trans (by rw [HLY.out]; rfl)
        obtain ⟨q, hq⟩ : ∃ q, q = rdnEq false X[k] Y[k] := ⟨_, rfl⟩
        have HCALL := Lib.hid (fun W (hB : Below wr.heap.size wr W) => hq ▸ rdn_equal X[k] Y[k] bx by' W ((hix.below HBr.out).below hB) ((hiy.below HBr.out).below hB) (HGX.out.part _ (List.getElem_mem hkX)).2 (HGY.out.part _ (List.getElem_mem hkY)).2 (HGX.out.part _ (List.getElem_mem hkX)).1 (HGY.out.part _ (List.getElem_mem hkY)).1)
        have hdrop : Hid (fin = (q && allEq false (X.drop (k + 1)) (Y.drop (k + 1)))) := Lib.hid (by
          rw [HFr.out, List.drop_eq_getElem_cons hkX, List.drop_eq_getElem_cons hkY, allEq, ← hq])
        clear hcx hcy hix hiy hq hkX hkY r0 s0
        go_wp2
        go_still_tail 14, (by kernel_rfl)
        change wpList _ _ _ _ _ wr.drew
        obtain ⟨w2, hw2⟩ : ∃ w2, w2 = wr.drew := ⟨_, rfl⟩
        rw [← hw2]
        have hB2 : Below wr.heap.size wr w2 := by rw [hw2]; exact (Below.refl _ _).drew
        have HB2 := Lib.hid hB2
        clear hw2 hB2
        cases q with
        | false =>
          go_wp2_with (go_at_call 50; with_reducible refine (HCALL.out w2 HB2.out).mono ?_; rintro e w3 ⟨rfl, hb3⟩)
          go_ret
          refine ⟨?_, HBr.out.trans ((HB2.out.trans (hb3.mono HB2.out.size)).mono HBr.out.size)⟩
          rw [hdrop.out]
          rfl
        | true =>
          go_wp2_with (go_at_call 50; with_reducible refine (HCALL.out w2 HB2.out).mono ?_; rintro e w3 ⟨rfl, hb3⟩)
          refine ⟨⟨k + 1, rfl, hlt, Lib.hid (HBr.out.trans ((HB2.out.trans (hb3.mono HB2.out.size)).mono HBr.out.size)), Lib.hid (by rw [hdrop.out, Bool.true_and])⟩, ?_⟩
          show n - ((k : Int) + 1).toNat < n - ((k : Int)).toNat
          rw [show ((k : Int) + 1).toNat = k + 1 from rfl, Int.toNat_natCast]
          omega
      · obtain rfl : k = n := by omega
        go_wp2
        go_ret
        refine ⟨?_, HBr.out⟩
        have := HFr.out
        rw [this, ← HLX.out, List.drop_length, allEq]
        · rfl
        · intro r rs s ss h
          cases h
  · have hfin : Hid (fin = false) := Lib.hid (by rw [HF.out, dnEq, if_pos hl])
    go_enter Tryd.func35, Tryd.ntmps35
    go_wp2
    go_quiet (fail)
    go_wp2
    go_ret
    refine ⟨?_, pw_below_drewN (Below.refl _ _) _⟩
    rw [hfin.out]
    rfl

set_option maxHeartbeats 800000 in
set_option maxRecDepth 100000 in
theorem dn_fold (X Y : List (List S53)) (b c : Nat) (w : World) (hX : IsD w b X) (hY : IsD w c Y) (gX : GoodD X) (gY : GoodD Y) :
    Calls Tryd.prog 37 #[.pointer (some ⟨b, 0, none⟩), .pointer (some ⟨c, 0, none⟩)] w fun e w' => e = .returned (.bool (dnEq true X Y)) ∧ Below w.heap.size w w' := by
  obtain ⟨AX, cX, hb, lX, hCX⟩ := hX
  obtain ⟨AY, cY, hc, lY, hCY⟩ := hY
  have r0 : w.cell? ⟨b, 0, none⟩ = some (.slice AX X.length cX) := blk_cell hb 0
  have s0 : w.cell? ⟨c, 0, none⟩ = some (.slice AY Y.length cY) := blk_cell hc 0
  have HBB := Lib.hid hb
  have HCC := Lib.hid hc
  have HCX := Lib.hid hCX
  have HCY := Lib.hid hCY
  have HGX := Lib.hid gX
  have HGY := Lib.hid gY
  have nX := gX.len
  have nY := gY.len
  obtain ⟨fin, hfin⟩ : ∃ fin, fin = dnEq true X Y := ⟨_, rfl⟩
  rw [← hfin]
  have HF := Lib.hid hfin
  clear hb hc hCX hCY lX lY hfin gX gY
  by_cases hl : X.length = Y.length
  · have hfin : Hid (fin = allEq true X Y) := Lib.hid (by rw [HF.out, dnEq, if_neg (fun h => h hl)])
    clear HF
    obtain ⟨n, hn⟩ : ∃ n, n = Y.length := ⟨_, rfl⟩
    rw [← hn] at hl s0 nY
    rw [hl] at r0 nX
    have HLX := Lib.hid hl
    have HLY := Lib.hid hn
    clear hl hn nX
    go_enter Tryd.func37, Tryd.ntmps37
    go_wp2
    go_quiet (fail)
    go_wp2
    have HB0 : Hid (Below w.heap.size w (w.drewN nq)) := Lib.hid (pw_below_drewN (Below.refl _ _) _)
    go_loopw [22] (fun iv wr => ∃ k : Nat, iv = .int .i64 k ∧ k ≤ n ∧ Hid (Below w.heap.size w wr) ∧ Hid (fin = allEq true (X.drop k) (Y.drop k))) (fun iv _ => n - (intOf iv).toNat)
    case atStart => exact ⟨0, rfl, Nat.zero_le _, HB0, hfin⟩
    case round =>
      obtain ⟨k, rfl, hk, HBr, HFr⟩ := hrel
      clear HB0 hfin
      by_cases hlt : k < n
      · have hkX : k < X.length := by rw [HLX.out]; exact hlt
        have hkY : k < Y.length := by rw [← HLY.out]; exact hlt
        obtain ⟨adx, bx, rfl, hcx, hix⟩ := at_R HCX.out k hkX hkX
        obtain ⟨ady, by', rfl, hcy, hiy⟩ := at_R HCY.out k hkY hkY
        have hcx' := (HBr.out.cell (World.block_lt_of_cell? w _ hcx)).trans hcx
        have hcy' := (HBr.out.cell (World.block_lt_of_cell? w _ hcy)).trans hcy
        have r1 : wr.cell? ⟨b, 0, none⟩ = some (.slice (some adx) n cX) := (blk_cell (blk_below HBB.out HBr.out) 0).trans (by rw [← HLX.out]; rfl)
        have s1 : wr.cell? ⟨c, 0, none⟩ = some (.slice (some ady) n cY) := (blk_cell (blk_below HCC.out HBr.out) 0).trans (by rw [HLY.out]; rfl)
        obtain ⟨q, hq⟩ : ∃ q, q = rdnEq true X[k] Y[k] := ⟨_, rfl⟩
        have HCALL := Lib.hid (fun W (hB : Below wr.heap.size wr W) => hq ▸ rdn_fold X[k] Y[k] bx by' W ((hix.below HBr.out).below hB) ((hiy.below HBr.out).below hB) (HGX.out.part _ (List.getElem_mem hkX)).2 (HGY.out.part _ (List.getElem_mem hkY)).2 (HGX.out.part _ (List.getElem_mem hkX)).1 (HGY.out.part _ (List.getElem_mem hkY)).1)
        have hdrop : Hid (fin = (q && allEq true (X.drop (k + 1)) (Y.drop (k + 1)))) := Lib.hid (by
          rw [HFr.out, List.drop_eq_getElem_cons hkX, List.drop_eq_getElem_cons hkY, allEq, ← hq])
        clear hcx hcy hix hiy hq hkX hkY r0 s0
        go_wp2
        go_still_tail 14, (by kernel_rfl)
        change wpList _ _ _ _ _ wr.drew
        obtain ⟨w2, hw2⟩ : ∃ w2, w2 = wr.drew := ⟨_, rfl⟩
        rw [← hw2]
        have hB2 : Below wr.heap.size wr w2 := by rw [hw2]; exact (Below.refl _ _).drew
        have HB2 := Lib.hid hB2
        clear hw2 hB2
        cases q with
        | false =>
          go_wp2_with (go_at_call 52; with_reducible refine (HCALL.out w2 HB2.out).mono ?_; rintro e w3 ⟨rfl, hb3⟩)
          go_ret
          refine ⟨?_, HBr.out.trans ((HB2.out.trans (hb3.mono HB2.out.size)).mono HBr.out.size)⟩
          rw [hdrop.out]
          rfl
        | true =>
          go_wp2_with (go_at_call 52; with_reducible refine (HCALL.out w2 HB2.out).mono ?_; rintro e w3 ⟨rfl, hb3⟩)
          refine ⟨⟨k + 1, rfl, hlt, Lib.hid (HBr.out.trans ((HB2.out.trans (hb3.mono HB2.out.size)).mono HBr.out.size)), Lib.hid (by rw [hdrop.out, Bool.true_and])⟩, ?_⟩
          show n - ((k : Int) + 1).toNat < n - ((k : Int)).toNat
          rw [show ((k : Int) + 1).toNat = k + 1 from rfl, Int.toNat_natCast]
          omega
      · obtain rfl : k = n := by omega
        go_wp2
        go_ret
        refine ⟨?_, HBr.out⟩
        have := HFr.out
        rw [this, ← HLX.out, List.drop_length, allEq]
        · rfl
        · intro r rs s ss h
          cases h
  · have hfin : Hid (fin = false) := Lib.hid (by rw [HF.out, dnEq, if_pos hl])
    go_enter Tryd.func37, Tryd.ntmps37
    go_wp2
    go_quiet (fail)
    go_wp2
    go_ret
    refine ⟨?_, pw_below_drewN (Below.refl _ _) _⟩
    rw [hfin.out]
    rfl
end Go.Proofs.YtcohjechpnlogaaDoor.Dn
