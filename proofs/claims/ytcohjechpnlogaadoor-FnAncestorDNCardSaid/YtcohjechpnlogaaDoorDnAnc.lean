/- (*DN).AncestorOf and AncestorOfFold. -/
import Derived.Test.YtcohjechpnlogaaDoorDnDn
namespace Go.Proofs.YtcohjechpnlogaaDoor.Dn
open Go.RowKit Go.Proofs.YtcohjechpnlogaaDoorW.PrintWords Go.Proofs.YtcohjechpnlogaaDoor.PDN
set_option linter.unusedVariables false
set_option linter.unusedSimpArgs false

def ancEq (fold : Bool) (X Y : List (List S53)) : Bool := if X.length ≥ Y.length then false else allEq fold X (Y.drop (Y.length - X.length))

set_option maxHeartbeats 800000 in
set_option maxRecDepth 100000 in
theorem anc_equal (X Y : List (List S53)) (b c : Nat) (w : World) (hX : IsD w b X) (hY : IsD w c Y) (gX : GoodD X) (gY : GoodD Y) :
    Calls Tryd.prog 38 #[.pointer (some ⟨b, 0, none⟩), .pointer (some ⟨c, 0, none⟩)] w fun e w' => e = .returned (.bool (ancEq false X Y)) ∧ Below w.heap.size w w' := by
  obtain ⟨AX, cX, hb, lX, hCX⟩ := hX
  obtain ⟨AY, cY, hc, lY, hCY⟩ := hY
  have r0 : ∀ m, (w.drewN m).cell? ⟨b, 0, none⟩ = some (.slice AX X.length cX) := fun m => blk_cell hb 0
  have s0 : ∀ m, (w.drewN m).cell? ⟨c, 0, none⟩ = some (.slice AY Y.length cY) := fun m => blk_cell hc 0
  have r00 : w.cell? ⟨b, 0, none⟩ = some (.slice AX X.length cX) := blk_cell hb 0
  have s00 : w.cell? ⟨c, 0, none⟩ = some (.slice AY Y.length cY) := blk_cell hc 0
  have HBB := Lib.hid hb
  have HCC := Lib.hid hc
  have HCX := Lib.hid hCX
  have HCY := Lib.hid hCY
  have HGX := Lib.hid gX
  have HGY := Lib.hid gY
  have nX := gX.len
  have nY := gY.len
  obtain ⟨fin, hfin⟩ : ∃ fin, fin = ancEq false X Y := ⟨_, rfl⟩
  rw [← hfin]
  have HF := Lib.hid hfin
  obtain ⟨n, hn⟩ : ∃ n, n = X.length := ⟨_, rfl⟩
  obtain ⟨m, hm⟩ : ∃ m, m = Y.length := ⟨_, rfl⟩
  rw [← hn] at r00 nX
  rw [← hm] at s00 nY lY
  simp only [← hn] at r0
  simp only [← hm] at s0
  have HN := Lib.hid hn
  have HM := Lib.hid hm
  clear hb hc hCX hCY lX hfin gX gY hn hm
  by_cases hl : n < m
  · have hfin : Hid (fin = allEq false X (Y.drop (m - n))) := Lib.hid (by rw [HF.out, ancEq, if_neg (by rw [← HN.out, ← HM.out]; omega), HN.out, HM.out])
    have hsub : IntKind.i64.wrap ((m : Int) - (n : Int)) = ((m - n : Nat) : Int) := by rw [IntKind.wrap_i64]; omega
    have hsub2 : wrap64 ((m : Int) - (n : Int)) = ((m - n : Nat) : Int) := by unfold wrap64; omega
    have hp1 : (0 : Int) ≤ ((m - n : Nat) : Int) := by omega
    have hp2 : ((m - n : Nat) : Int) ≤ (m : Int) := by omega
    have hp3 : (m - n : Nat) ≤ m := by omega
    go_enter Tryd.func38, Tryd.ntmps38
    go_wp2
    go_quiet (fail)
    go_wp2
    go_quiet (fail)
    obtain ⟨AO, hAO⟩ : ∃ AO, AO = (if cY = m - n then AY else Option.map (fun x => x.add (m - n)) AY) := ⟨_, rfl⟩
    have hmn : m - (m - n) = n := by omega
    rw [← hAO, hmn]
    have hYD : (Y.drop (m - n)).length = n := by rw [List.length_drop, ← HM.out]; exact hmn
    have HCO : Hid (kR.C w AO n (Y.drop (m - n))) := Lib.hid (by
      have h := Kd.C_drop (m := m - n) (c := cY) HCY.out (by rw [← HM.out]; omega) (by rw [← HM.out]; exact lY)
      have e : (fun x : Addr => x.add ((m - n) * kR.sz)) = fun x : Addr => x.add (m - n) := by
        funext x
        rw [show kR.sz = 1 from rfl, Nat.mul_one]
      rw [e, ← hAO, hYD] at h
      exact h)
    have HYD := Lib.hid hYD
    have HBW : Hid (∀ p, Below w.heap.size w (w.drewN p)) := Lib.hid (fun p => pw_below_drewN (Below.refl _ _) _)
    clear hAO hmn hYD hsub hsub2 hp1 hp2 hp3
    obtain ⟨Z, hZ⟩ : ∃ Z, Z = Y.drop (m - n) := ⟨_, rfl⟩
    rw [← hZ] at HCO HYD hfin
    have HZ : Hid (∀ r ∈ Z, r.length < 1000 ∧ ∀ x ∈ r, PlainA x) := Lib.hid (fun r hr => HGY.out.part r (List.mem_of_mem_drop (hZ ▸ hr)))
    have r2 : ∀ p q, ((w.drewN p).drewN q).cell? ⟨b, 0, none⟩ = some (.slice AX n cX) := fun p q => r00
    clear hZ
    go_wp2
    rw [show decide (m ≤ n) = false from decide_eq_false (by omega)]
    go_loopw [39] (fun iv wr => ∃ k : Nat, iv = .int .i64 k ∧ k ≤ n ∧ Hid (Below w.heap.size w wr) ∧ Hid (fin = allEq false (X.drop k) (Z.drop k))) (fun iv _ => n - (intOf iv).toNat)
    case atStart => exact ⟨0, rfl, Nat.zero_le _, Lib.hid (HBW.out _), hfin⟩
    case round =>
      obtain ⟨k, rfl, hk, HBr, HFr⟩ := hrel
      clear HBW hfin r2 r0 s0 r00 s00
      by_cases hlt : k < n
      · have hkX : k < X.length := by rw [← HN.out]; exact hlt
        have hkZ : k < Z.length := by rw [HYD.out]; exact hlt
        obtain ⟨adx, bx, rfl, hcx, hix⟩ := at_R HCX.out k hkX hkX
        obtain ⟨adz, bz, rfl, hcz, hiz⟩ := at_R HCO.out k hlt hkZ
        have hcx' := (HBr.out.cell (World.block_lt_of_cell? w _ hcx)).trans hcx
        have hcz' := (HBr.out.cell (World.block_lt_of_cell? w _ hcz)).trans hcz
        have r1 : wr.cell? ⟨b, 0, none⟩ = some (.slice (some adx) n cX) := (blk_cell (blk_below HBB.out HBr.out) 0).trans (by rw [HN.out]; rfl)
        obtain ⟨q, hq⟩ : ∃ q, q = rdnEq false X[k] Z[k] := ⟨_, rfl⟩
        have HCALL := Lib.hid (fun W (hB : Below wr.heap.size wr W) => hq ▸ rdn_equal X[k] Z[k] bx bz W ((hix.below HBr.out).below hB) ((hiz.below HBr.out).below hB) (HGX.out.part _ (List.getElem_mem hkX)).2 (HZ.out _ (List.getElem_mem hkZ)).2 (HGX.out.part _ (List.getElem_mem hkX)).1 (HZ.out _ (List.getElem_mem hkZ)).1)
        have hdrop : Hid (fin = (q && allEq false (X.drop (k + 1)) (Z.drop (k + 1)))) := Lib.hid (by
          rw [HFr.out, List.drop_eq_getElem_cons hkX, List.drop_eq_getElem_cons hkZ, allEq, ← hq])
        clear hcx hcz hix hiz hq hkX hkZ
        go_wp2
        go_still_tail 11, (by kernel_rfl)
        change wpList _ _ _ _ _ wr.drew
        obtain ⟨w2, hw2⟩ : ∃ w2, w2 = wr.drew := ⟨_, rfl⟩
        rw [← hw2]
        have hB2 : Below wr.heap.size wr w2 := by rw [hw2]; exact (Below.refl _ _).drew
        have HB2 := Lib.hid hB2
        clear hw2 hB2
        cases q with
        | false =>
          go_wp2_with (go_at_call 50; with_reducible refine (HCALL.out w2 HB2.out).mono ?_; rintro e w3 ⟨rfl, hb3⟩)
          go_ret
          refine ⟨?_, HBr.out.trans ((HB2.out.trans (hb3.mono HB2.out.size)).mono HBr.out.size)⟩
          rw [hdrop.out]
          rfl
        | true =>
          go_wp2_with (go_at_call 50; with_reducible refine (HCALL.out w2 HB2.out).mono ?_; rintro e w3 ⟨rfl, hb3⟩)
          refine ⟨⟨k + 1, rfl, hlt, Lib.hid (HBr.out.trans ((HB2.out.trans (hb3.mono HB2.out.size)).mono HBr.out.size)), Lib.hid (by rw [hdrop.out, Bool.true_and])⟩, ?_⟩
          show n - ((k : Int) + 1).toNat < n - ((k : Int)).toNat
          rw [show ((k : Int) + 1).toNat = k + 1 from rfl, Int.toNat_natCast]
          omega
      · obtain rfl : k = n := by omega
        go_wp2
        go_ret
        refine ⟨?_, HBr.out⟩
        have := HFr.out
        rw [this, HN.out, List.drop_length, allEq]
        · rfl
        · intro r rs s ss h
          cases h
  · have hfin : Hid (fin = false) := Lib.hid (by rw [HF.out, ancEq, if_pos (by rw [← HN.out, ← HM.out]; omega)])
    go_enter Tryd.func38, Tryd.ntmps38
    go_wp2
    go_quiet (fail)
    go_wp2
    go_ret
    refine ⟨?_, pw_below_drewN (Below.refl _ _) _⟩
    rw [hfin.out]
    rfl

set_option maxHeartbeats 800000 in
set_option maxRecDepth 100000 in
theorem anc_fold (X Y : List (List S53)) (b c : Nat) (w : World) (hX : IsD w b X) (hY : IsD w c Y) (gX : GoodD X) (gY : GoodD Y) :
    Calls Tryd.prog 39 #[.pointer (some ⟨b, 0, none⟩), .pointer (some ⟨c, 0, none⟩)] w fun e w' => e = .returned (.bool (ancEq true X Y)) ∧ Below w.heap.size w w' := by
  obtain ⟨AX, cX, hb, lX, hCX⟩ := hX
  obtain ⟨AY, cY, hc, lY, hCY⟩ := hY
  have r0 : ∀ m, (w.drewN m).cell? ⟨b, 0, none⟩ = some (.slice AX X.length cX) := fun m => blk_cell hb 0
  have s0 : ∀ m, (w.drewN m).cell? ⟨c, 0, none⟩ = some (.slice AY Y.length cY) := fun m => blk_cell hc 0
  have r00 : w.cell? ⟨b, 0, none⟩ = some (.slice AX X.length cX) := blk_cell hb 0
  have s00 : w.cell? ⟨c, 0, none⟩ = some (.slice AY Y.length cY) := blk_cell hc 0
  have HBB := Lib.hid hb
  have HCC := Lib.hid hc
  have HCX := Lib.hid hCX
  have HCY := Lib.hid hCY
  have HGX := Lib.hid gX
  have HGY := Lib.hid gY
  have nX := gX.len
  have nY := gY.len
  obtain ⟨fin, hfin⟩ : ∃ fin, fin = ancEq true X Y := ⟨_, rfl⟩
  rw [← hfin]
  have HF := Lib.hid hfin
  obtain ⟨n, hn⟩ : ∃ n, n = X.length := ⟨_, rfl⟩
  obtain ⟨m, hm⟩ : ∃ m, m = Y.length := ⟨_, rfl⟩
  rw [← hn] at r00 nX
  rw [← hm] at s00 nY lY
  simp only [← hn] at r0
  simp only [← hm] at s0
  have HN := Lib.hid hn
  have HM := Lib.hid hm
  clear hb hc hCX hCY lX hfin gX gY hn hm
  by_cases hl : n < m
  · have hfin : Hid (fin = allEq true X (Y.drop (m - n))) := Lib.hid (by rw [HF.out, ancEq, if_neg (by rw [← HN.out, ← HM.out]; omega), HN.out, HM.out])
    have hsub : IntKind.i64.wrap ((m : Int) - (n : Int)) = ((m - n : Nat) : Int) := by rw [IntKind.wrap_i64]; omega
    have hsub2 : wrap64 ((m : Int) - (n : Int)) = ((m - n : Nat) : Int) := by unfold wrap64; omega
    have hp1 : (0 : Int) ≤ ((m - n : Nat) : Int) := by omega
    have hp2 : ((m - n : Nat) : Int) ≤ (m : Int) := by omega
    have hp3 : (m - n : Nat) ≤ m := by omega
    go_enter Tryd.func39, Tryd.ntmps39
    go_wp2
    go_quiet (fail)
    go_wp2
    go_quiet (fail)
    obtain ⟨AO, hAO⟩ : ∃ AO, AO = (if cY = m - n then AY else Option.map (fun x => x.add (m - n)) AY) := ⟨_, rfl⟩
    have hmn : m - (m - n) = n := by omega
    rw [← hAO, hmn]
    have hYD : (Y.drop (m - n)).length = n := by rw [List.length_drop, ← HM.out]; exact hmn
    have HCO : Hid (kR.C w AO n (Y.drop (m - n))) := Lib.hid (by
      have h := Kd.C_drop (m := m - n) (c := cY) HCY.out (by rw [← HM.out]; omega) (by rw [← HM.out]; exact lY)
      have e : (fun x : Addr => x.add ((m - n) * kR.sz)) = fun x : Addr => x.add (m - n) := by
        funext x
        rw [show kR.sz = 1 from rfl, Nat.mul_one]
      rw [e, ← hAO, hYD] at h
      exact h)
    have HYD := Lib.hid hYD
    have HBW : Hid (∀ p, Below w.heap.size w (w.drewN p)) := Lib.hid (fun p => pw_below_drewN (Below.refl _ _) _)
    clear hAO hmn hYD hsub hsub2 hp1 hp2 hp3
    obtain ⟨Z, hZ⟩ : ∃ Z, Z = Y.drop (m - n) := ⟨_, rfl⟩
    rw [← hZ] at HCO HYD hfin
    have HZ : Hid (∀ r ∈ Z, r.length < 1000 ∧ ∀ x ∈ r, PlainA x) := Lib.hid (fun r hr => HGY.out.part r (List.mem_of_mem_drop (hZ ▸ hr)))
    have r2 : ∀ p q, ((w.drewN p).drewN q).cell? ⟨b, 0, none⟩ = some (.slice AX n cX) := fun p q => r00
    clear hZ
    go_wp2
    rw [show decide (m ≤ n) = false from decide_eq_false (by omega)]
    go_loopw [39] (fun iv wr => ∃ k : Nat, iv = .int .i64 k ∧ k ≤ n ∧ Hid (Below w.heap.size w wr) ∧ Hid (fin = allEq true (X.drop k) (Z.drop k))) (fun iv _ => n - (intOf iv).toNat)
    case atStart => exact ⟨0, rfl, Nat.zero_le _, Lib.hid (HBW.out _), hfin⟩
    case round =>
      obtain ⟨k, rfl, hk, HBr, HFr⟩ := hrel
      clear HBW hfin r2 r0 s0 r00 s00
      by_cases hlt : k < n
      · have hkX : k < X.length := by rw [← HN.out]; exact hlt
        have hkZ : k < Z.length := by rw [HYD.out]; exact hlt
        obtain ⟨adx, bx, rfl, hcx, hix⟩ := at_R HCX.out k hkX hkX
        obtain ⟨adz, bz, rfl, hcz, hiz⟩ := at_R HCO.out k hlt hkZ
        have hcx' := (HBr.out.cell (World.block_lt_of_cell? w _ hcx)).trans hcx
        have hcz' := (HBr.out.cell (World.block_lt_of_cell? w _ hcz)).trans hcz
        have r1 : wr.cell? ⟨b, 0, none⟩ = some (.slice (some adx) n cX) := (blk_cell (blk_below HBB.out HBr.out) 0).trans (by rw [HN.out]; rfl)
        obtain ⟨q, hq⟩ : ∃ q, q = rdnEq true X[k] Z[k] := ⟨_, rfl⟩
        have HCALL := Lib.hid (fun W (hB : Below wr.heap.size wr W) => hq ▸ rdn_fold X[k] Z[k] bx bz W ((hix.below HBr.out).below hB) ((hiz.below HBr.out).below hB) (HGX.out.part _ (List.getElem_mem hkX)).2 (HZ.out _ (List.getElem_mem hkZ)).2 (HGX.out.part _ (List.getElem_mem hkX)).1 (HZ.out _ (List.getElem_mem hkZ)).1)
        have hdrop : Hid (fin = (q && allEq true (X.drop (k + 1)) (Z.drop (k + 1)))) := Lib.hid (by
          rw [HFr.out, List.drop_eq_getElem_cons hkX, List.drop_eq_getElem_cons hkZ, allEq, ← hq])
        clear hcx hcz hix hiz hq hkX hkZ
        go_wp2
        go_still_tail 11, (by kernel_rfl)
        change wpList _ _ _ _ _ wr.drew
        obtain ⟨w2, hw2⟩ : ∃ w2, w2 = wr.drew := ⟨_, rfl⟩
        rw [← hw2]
        have hB2 : Below wr.heap.size wr w2 := by rw [hw2]; exact (Below.refl _ _).drew
        have HB2 := Lib.hid hB2
        clear hw2 hB2
        cases q with
        | false =>
          go_wp2_with (go_at_call 52; with_reducible refine (HCALL.out w2 HB2.out).mono ?_; rintro e w3 ⟨rfl, hb3⟩)
          go_ret
          refine ⟨?_, HBr.out.trans ((HB2.out.trans (hb3.mono HB2.out.size)).mono HBr.out.size)⟩
          rw [hdrop.out]
          rfl
        | true =>
          go_wp2_with (go_at_call 52; with_reducible refine (HCALL.out w2 HB2.out).mono ?_; rintro e w3 ⟨rfl, hb3⟩)
          refine ⟨⟨k + 1, rfl, hlt, Lib.hid (HBr.out.trans ((HB2.out.trans (hb3.mono HB2.out.size)).mono HBr.out.size)), Lib.hid (by rw [hdrop.out, Bool.true_and])⟩, ?_⟩
          show n - ((k : Int) + 1).toNat < n - ((k : Int)).toNat
          rw [show ((k : Int) + 1).toNat = k + 1 from rfl, Int.toNat_natCast]
          omega
      · obtain rfl : k = n := by omega
        go_wp2
        go_ret
        refine ⟨?_, HBr.out⟩
        have := HFr.out
        rw [this, HN.out, List.drop_length, allEq]
        · rfl
        · intro r rs s ss h
          cases h
  · have hfin : Hid (fin = false) := Lib.hid (by rw [HF.out, ancEq, if_pos (by rw [← HN.out, ← HM.out]; omega)])
    go_enter Tryd.func39, Tryd.ntmps39
    go_wp2
    go_quiet (fail)
    go_wp2
    go_ret
    refine ⟨?_, pw_below_drewN (Below.refl _ _) _⟩
    rw [hfin.out]
    rfl
end Go.Proofs.YtcohjechpnlogaaDoor.Dn
