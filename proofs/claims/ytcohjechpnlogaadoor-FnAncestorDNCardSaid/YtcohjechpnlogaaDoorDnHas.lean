/- (*RelativeDN).hasAllAttributes and hasAllAttributesFold: each attribute takes one of the part's that is not taken yet. -/
import Derived.Test.YtcohjechpnlogaaDoorDnAttr
import Derived.Laws.MakeOwn
namespace Go.Proofs.YtcohjechpnlogaaDoor.Dn
open Go.RowKit Go.Proofs.YtcohjechpnlogaaDoorW.PrintWords Go.Proofs.YtcohjechpnlogaaDoor.PDN
set_option linter.unusedVariables false
set_option linter.unusedSimpArgs false

/-- the first attribute from j on that is free and equal -/
def ff (fold : Bool) (R : List S53) (m : List Bool) (a : S53) (j : Nat) : Option Nat :=
  if h : j < R.length then (if m.getD j false = false ∧ eqA fold R[j] a = true then some j else ff fold R m a (j + 1)) else none
termination_by R.length - j
/-- each attribute takes one -/
def hasAll (fold : Bool) (R : List S53) : List Bool → List S53 → Bool
  | _, [] => true
  | m, a :: l => match ff fold R m a 0 with
    | none => false
    | some i => hasAll fold R (m.set i true) l

theorem ff_step {fold : Bool} {R : List S53} {m : List Bool} {a : S53} {j : Nat} (h : j < R.length) (hn : ¬ (m.getD j false = false ∧ eqA fold R[j] a = true)) : ff fold R m a j = ff fold R m a (j + 1) := by
  rw [ff, dif_pos h, if_neg hn]
theorem ff_yes {fold : Bool} {R : List S53} {m : List Bool} {a : S53} {j : Nat} (h : j < R.length) (h1 : m.getD j false = false) (h2 : eqA fold R[j] a = true) : ff fold R m a j = some j := by
  rw [ff, dif_pos h, if_pos ⟨h1, h2⟩]
theorem ff_end {fold : Bool} {R : List S53} {m : List Bool} {a : S53} : ff fold R m a R.length = none := by
  rw [ff, dif_neg (Nat.lt_irrefl _)]

theorem info_bool : (Tryd.prog.info? 4).map (fun i => (i.zero, i.size, i.bytes)) = some (some (.bool false), 1, 1) := by kernel_rfl
theorem make_bools (n : Nat) (hn : n ≤ 1000) : ∃ M : Array Value, (∀ w : World, (w.alloc (.cells M 4)).ownsRow w.heap.size 4 1 (.slice (some ⟨w.heap.size, 0, none⟩) n n) n (encs Value.bool (List.replicate n false))) ∧
    ∀ w : World, (Instr.makeSlice 106 (.int .i64 (n : Int)) (.int .i64 (n : Int))).run Tryd.prog w = .ok (.slice (some ⟨w.heap.size, 0, none⟩) n n) (w.alloc (.cells M 4)) := by
  refine ⟨madeCells #[.bool false] n, fun w => ?_, print_make_of (P := Tryd.prog) 106 4 (.bool false) 1 Tryd.underlying106 info_bool rfl (by decide) n (by omega)⟩
  exact own_made_of (enc := Value.bool) (d := false) w w.heap.size 4 n (Nat.le_refl _) (by omega)

set_option maxHeartbeats 800000 in
set_option maxRecDepth 100000 in
theorem hasAll_equal (R As : List S53) (b : Nat) (A : Option Addr) (c : Nat) (w : World) (hR : IsR w b R) (hA : kA.C w A As.length As) (pR : ∀ x ∈ R, PlainA x) (pA : ∀ x ∈ As, PlainA x) (nR : R.length < 1000) (nA : As.length < 1000) :
    Calls Tryd.prog 57 #[.pointer (some ⟨b, 0, none⟩), .slice A As.length c] w fun e w' => e = .returned (.bool (hasAll false R (List.replicate R.length false) As)) ∧ Below w.heap.size w w' := by
  obtain ⟨n, hn⟩ : ∃ n, n = R.length := ⟨_, rfl⟩
  obtain ⟨AR, cR, hb, lR, hC⟩ := hR
  rw [← hn] at hb lR hC nR ⊢
  obtain ⟨fin, hfin⟩ : ∃ fin, fin = hasAll false R (List.replicate n false) As := ⟨_, rfl⟩
  rw [← hfin]
  have r0 : w.cell? ⟨b, 0, none⟩ = some (.slice AR n cR) := blk_cell hb 0
  have HB := Lib.hid hb
  have HC := Lib.hid hC
  have HA := Lib.hid hA
  have HPR := Lib.hid pR
  have HPA := Lib.hid pA
  have HN := Lib.hid hn
  have HF := Lib.hid hfin
  obtain ⟨M, hM, hmk⟩ := make_bools n (by omega)
  have HM := Lib.hid (hM w)
  have hmk0 := hmk w
  clear hb hC hA pR pA hn hfin lR hM hmk
  go_enter Tryd.func57, Tryd.ntmps57
  go_wp2
  have HBW : Hid (Below w.heap.size w (w.alloc (.cells M 4))) := Lib.hid (below_alloc (Below.refl _ _) _)
  clear hmk0
  go_loopw [19] (fun iv wr => ∃ (k : Nat) (m : List Bool), iv = .int .i64 k ∧ k ≤ As.length ∧ Hid (wr.ownsRow w.heap.size 4 1 (.slice (some ⟨w.heap.size, 0, none⟩) n n) n (encs Value.bool m)) ∧ Hid (Below w.heap.size w wr) ∧ Hid (fin = hasAll false R m (As.drop k))) (fun iv _ => As.length - (intOf iv).toNat)
  case atStart => exact ⟨0, _, rfl, Nat.zero_le _, HM, HBW, HF⟩
  case round =>
    obtain ⟨k, m, rfl, hk, HO, HBr, HFr⟩ := hrel
    clear HBW HF HM
    by_cases hlt : k < As.length
    · obtain ⟨ad, ba, rfl, hca, hia⟩ := at_A HA.out k hlt hlt
      have hca' := (HBr.out.cell (World.block_lt_of_cell? w _ hca)).trans hca
      have r0' : wr.cell? ⟨b, 0, none⟩ = some (.slice AR n cR) := blk_cell (blk_below HB.out HBr.out) 0
      obtain ⟨a, ha⟩ : ∃ a, a = As[k] := ⟨_, rfl⟩
      rw [← ha] at hia
      have hdrop : As.drop k = a :: As.drop (k + 1) := by rw [ha]; exact List.drop_eq_getElem_cons hlt
      rw [hdrop] at HFr
      have HIA := Lib.hid hia
      have HPa := Lib.hid (ha ▸ HPA.out As[k] (List.getElem_mem hlt))
      clear hca ha hdrop hia r0
      go_wp2
      go_loopw [28, 8] (fun jv fv wr2 => ∃ j : Nat, jv = .int .i64 j ∧ j ≤ n ∧ fv = .bool false ∧ Hid (wr2.ownsRow w.heap.size 4 1 (.slice (some ⟨w.heap.size, 0, none⟩) n n) n (encs Value.bool m)) ∧ Hid (Below w.heap.size w wr2) ∧ Hid (ff false R m a 0 = ff false R m a j)) (fun jv _ _ => n - (intOf jv).toNat)
      case atStart => exact ⟨0, rfl, Nat.zero_le _, rfl, HO, HBr, Lib.hid rfl⟩
      case round =>
        obtain ⟨j, rfl, hj, rfl, HO2, HB2, HFF⟩ := hrel
        by_cases hjn : j < n
        · have hjR : j < R.length := by rw [← HN.out]; exact hjn
          obtain ⟨ad2, bj, rfl, hcj, hij⟩ := at_A HC.out j hjn hjR
          have hcj' := (HB2.out.cell (World.block_lt_of_cell? w _ hcj)).trans hcj
          obtain ⟨x, hx⟩ : ∃ x, x = R[j] := ⟨_, rfl⟩
          rw [← hx] at hij
          have HIJ := Lib.hid hij
          have HPX := Lib.hid (hx ▸ HPR.out R[j] (List.getElem_mem hjR))
          obtain ⟨hc1, hf1⟩ := own_at_of (enc := Value.bool) (d := false) HO2.out (j : Int) (by omega) (by omega)
          rw [Int.toNat_natCast] at hc1 hf1
          obtain ⟨mj, hmj⟩ : ∃ mj, mj = rdOf false m (j : Int) := ⟨_, rfl⟩
          rw [← hmj] at hc1
          have hgd : m.getD j false = mj := by rw [hmj, rdOf, Int.toNat_natCast]
          have HCALL := Lib.hid (attr_equal x a bj ba wr (IsA.below HIJ.out HB2.out) (IsA.below HIA.out HB2.out) HPX.out HPa.out)
          have HX := Lib.hid hx
          have HJR := Lib.hid hjR
          have HGD := Lib.hid hgd
          have hm : n - ((j : Int) + 1).toNat < n - ((j : Int)).toNat := by
            rw [show ((j : Int) + 1).toNat = j + 1 from rfl, Int.toNat_natCast]
            omega
          have HM1 := Lib.hid hm
          clear hcj hx hij hmj hgd hm
          obtain ⟨q, hq⟩ : ∃ q, q = eqA false x a := ⟨_, rfl⟩
          rw [← hq] at HCALL
          have HQ := Lib.hid hq
          clear hq
          cases mj with
          | true =>
            go_wp2
            exact ⟨⟨j + 1, rfl, hjn, rfl, HO2, HB2, Lib.hid (HFF.out.trans (ff_step hjR (fun e => by rw [HGD.out] at e; exact absurd e.1 (by decide))))⟩, HM1.out⟩
          | false =>
            cases q with
            | false =>
              go_wp2_with (go_at_call 62; with_reducible refine HCALL.out.mono ?_; rintro e w3 ⟨rfl, hb3⟩)
              exact ⟨⟨j + 1, rfl, hjn, rfl, Lib.hid (pw_own_below HO2.out hb3), Lib.hid (HB2.out.trans (hb3.mono HB2.out.size)), Lib.hid (HFF.out.trans (ff_step hjR (fun e => by rw [← HX.out, ← HQ.out] at e; exact absurd e.2 (by decide))))⟩, HM1.out⟩
            | true =>
              have hall : Hid (fin = hasAll false R (m.set j true) (As.drop (k + 1))) := Lib.hid (by
                rw [HFr.out, hasAll, HFF.out, ff_yes hjR HGD.out (by rw [← HX.out]; exact HQ.out.symm)])
              go_wp2_with (go_at_call 62
                           with_reducible refine HCALL.out.mono ?_
                           rintro e w3 ⟨rfl, hb3⟩
                           have ho3 := pw_own_below HO2.out hb3
                           obtain ⟨hc3, hf3⟩ := own_at_of (enc := Value.bool) (d := false) ho3 (j : Int) (by omega) (by omega)
                           rw [Int.toNat_natCast] at hc3 hf3
                           have HO3 := Lib.hid (own_store_of (enc := Value.bool) ho3 (j : Int) true).1
                           have HB3 := Lib.hid (HB2.out.trans (hb3.mono HB2.out.size))
                           clear ho3 hb3)
              refine ⟨⟨k + 1, m.set j true, rfl, hlt, Lib.hid ?_, Lib.hid (HB3.out.setCell (p := ⟨w.heap.size, j, none⟩) (Nat.le_refl _) _), hall⟩, ?_⟩
              · have := HO3.out
                rw [Int.toNat_natCast] at this
                exact this
              · show As.length - ((k : Int) + 1).toNat < As.length - ((k : Int)).toNat
                rw [show ((k : Int) + 1).toNat = k + 1 from rfl, Int.toNat_natCast]
                omega
        · obtain rfl : j = n := by omega
          have hff : Hid (fin = false) := Lib.hid (by
            rw [HFr.out, hasAll, HFF.out, HN.out, ff_end])
          go_wp2
          go_ret
          refine ⟨?_, HB2.out⟩
          rw [hff.out]
          rfl
    · obtain rfl : k = As.length := by omega
      go_wp2
      go_ret
      refine ⟨?_, HBr.out⟩
      have := HFr.out
      rw [List.drop_length, hasAll] at this
      rw [this]
      rfl

set_option maxHeartbeats 800000 in
set_option maxRecDepth 100000 in
theorem hasAll_fold (R As : List S53) (b : Nat) (A : Option Addr) (c : Nat) (w : World) (hR : IsR w b R) (hA : kA.C w A As.length As) (pR : ∀ x ∈ R, PlainA x) (pA : ∀ x ∈ As, PlainA x) (nR : R.length < 1000) (nA : As.length < 1000) :
    Calls Tryd.prog 58 #[.pointer (some ⟨b, 0, none⟩), .slice A As.length c] w fun e w' => e = .returned (.bool (hasAll true R (List.replicate R.length false) As)) ∧ Below w.heap.size w w' := by
  obtain ⟨n, hn⟩ : ∃ n, n = R.length := ⟨_, rfl⟩
  obtain ⟨AR, cR, hb, lR, hC⟩ := hR
  rw [← hn] at hb lR hC nR ⊢
  obtain ⟨fin, hfin⟩ : ∃ fin, fin = hasAll true R (List.replicate n false) As := ⟨_, rfl⟩
  rw [← hfin]
  have r0 : w.cell? ⟨b, 0, none⟩ = some (.slice AR n cR) := blk_cell hb 0
  have HB := Lib.hid hb
  have HC := Lib.hid hC
  have HA := Lib.hid hA
  have HPR := Lib.hid pR
  have HPA := Lib.hid pA
  have HN := Lib.hid hn
  have HF := Lib.hid hfin
  obtain ⟨M, hM, hmk⟩ := make_bools n (by omega)
  have HM := Lib.hid (hM w)
  have hmk0 := hmk w
  clear hb hC hA pR pA hn hfin lR hM hmk
  go_enter Tryd.func58, Tryd.ntmps58
  go_wp2
  have HBW : Hid (Below w.heap.size w (w.alloc (.cells M 4))) := Lib.hid (below_alloc (Below.refl _ _) _)
  clear hmk0
  go_loopw [19] (fun iv wr => ∃ (k : Nat) (m : List Bool), iv = .int .i64 k ∧ k ≤ As.length ∧ Hid (wr.ownsRow w.heap.size 4 1 (.slice (some ⟨w.heap.size, 0, none⟩) n n) n (encs Value.bool m)) ∧ Hid (Below w.heap.size w wr) ∧ Hid (fin = hasAll true R m (As.drop k))) (fun iv _ => As.length - (intOf iv).toNat)
  case atStart => exact ⟨0, _, rfl, Nat.zero_le _, HM, HBW, HF⟩
  case round =>
    obtain ⟨k, m, rfl, hk, HO, HBr, HFr⟩ := hrel
    clear HBW HF HM
    by_cases hlt : k < As.length
    · obtain ⟨ad, ba, rfl, hca, hia⟩ := at_A HA.out k hlt hlt
      have hca' := (HBr.out.cell (World.block_lt_of_cell? w _ hca)).trans hca
      have r0' : wr.cell? ⟨b, 0, none⟩ = some (.slice AR n cR) := blk_cell (blk_below HB.out HBr.out) 0
      obtain ⟨a, ha⟩ : ∃ a, a = As[k] := ⟨_, rfl⟩
      rw [← ha] at hia
      have hdrop : As.drop k = a :: As.drop (k + 1) := by rw [ha]; exact List.drop_eq_getElem_cons hlt
      rw [hdrop] at HFr
      have HIA := Lib.hid hia
      have HPa := Lib.hid (ha ▸ HPA.out As[k] (List.getElem_mem hlt))
      clear hca ha hdrop hia r0
      go_wp2
      go_loopw [28, 8] (fun jv fv wr2 => ∃ j : Nat, jv = .int .i64 j ∧ j ≤ n ∧ fv = .bool false ∧ Hid (wr2.ownsRow w.heap.size 4 1 (.slice (some ⟨w.heap.size, 0, none⟩) n n) n (encs Value.bool m)) ∧ Hid (Below w.heap.size w wr2) ∧ Hid (ff true R m a 0 = ff true R m a j)) (fun jv _ _ => n - (intOf jv).toNat)
      case atStart => exact ⟨0, rfl, Nat.zero_le _, rfl, HO, HBr, Lib.hid rfl⟩
      case round =>
        obtain ⟨j, rfl, hj, rfl, HO2, HB2, HFF⟩ := hrel
        by_cases hjn : j < n
        · have hjR : j < R.length := by rw [← HN.out]; exact hjn
          obtain ⟨ad2, bj, rfl, hcj, hij⟩ := at_A HC.out j hjn hjR
          have hcj' := (HB2.out.cell (World.block_lt_of_cell? w _ hcj)).trans hcj
          obtain ⟨x, hx⟩ : ∃ x, x = R[j] := ⟨_, rfl⟩
          rw [← hx] at hij
          have HIJ := Lib.hid hij
          have HPX := Lib.hid (hx ▸ HPR.out R[j] (List.getElem_mem hjR))
          obtain ⟨hc1, hf1⟩ := own_at_of (enc := Value.bool) (d := false) HO2.out (j : Int) (by omega) (by omega)
          rw [Int.toNat_natCast] at hc1 hf1
          obtain ⟨mj, hmj⟩ : ∃ mj, mj = rdOf false m (j : Int) := ⟨_, rfl⟩
          rw [← hmj] at hc1
          have hgd : m.getD j false = mj := by rw [hmj, rdOf, Int.toNat_natCast]
          have HCALL := Lib.hid (attr_fold x a bj ba wr (IsA.below HIJ.out HB2.out) (IsA.below HIA.out HB2.out) HPX.out HPa.out)
          have HX := Lib.hid hx
          have HJR := Lib.hid hjR
          have HGD := Lib.hid hgd
          have hm : n - ((j : Int) + 1).toNat < n - ((j : Int)).toNat := by
            rw [show ((j : Int) + 1).toNat = j + 1 from rfl, Int.toNat_natCast]
            omega
          have HM1 := Lib.hid hm
          clear hcj hx hij hmj hgd hm
          obtain ⟨q, hq⟩ : ∃ q, q = eqA true x a := ⟨_, rfl⟩
          rw [← hq] at HCALL
          have HQ := Lib.hid hq
          clear hq
          cases mj with
          | true =>
            go_wp2
            exact ⟨⟨j + 1, rfl, hjn, rfl, HO2, HB2, Lib.hid (HFF.out.trans (ff_step hjR (fun e => by rw [HGD.out] at e; exact absurd e.1 (by decide))))⟩, HM1.out⟩
          | false =>
            cases q with
            | false =>
              go_wp2_with (go_at_call 63; with_reducible refine HCALL.out.mono ?_; rintro e w3 ⟨rfl, hb3⟩)
              exact ⟨⟨j + 1, rfl, hjn, rfl, Lib.hid (pw_own_below HO2.out hb3), Lib.hid (HB2.out.trans (hb3.mono HB2.out.size)), Lib.hid (HFF.out.trans (ff_step hjR (fun e => by rw [← HX.out, ← HQ.out] at e; exact absurd e.2 (by decide))))⟩, HM1.out⟩
            | true =>
              have hall : Hid (fin = hasAll true R (m.set j true) (As.drop (k + 1))) := Lib.hid (by
                rw [HFr.out, hasAll, HFF.out, ff_yes hjR HGD.out (by rw [← HX.out]; exact HQ.out.symm)])
              go_wp2_with (go_at_call 63
                           with_reducible refine HCALL.out.mono ?_
                           rintro e w3 ⟨rfl, hb3⟩
                           have ho3 := pw_own_below HO2.out hb3
                           obtain ⟨hc3, hf3⟩ := own_at_of (enc := Value.bool) (d := false) ho3 (j : Int) (by omega) (by omega)
                           rw [Int.toNat_natCast] at hc3 hf3
                           have HO3 := Lib.hid (own_store_of (enc := Value.bool) ho3 (j : Int) true).1
                           have HB3 := Lib.hid (HB2.out.trans (hb3.mono HB2.out.size))
                           clear ho3 hb3)
              refine ⟨⟨k + 1, m.set j true, rfl, hlt, Lib.hid ?_, Lib.hid (HB3.out.setCell (p := ⟨w.heap.size, j, none⟩) (Nat.le_refl _) _), hall⟩, ?_⟩
              · have := HO3.out
                rw [Int.toNat_natCast] at this
                exact this
              · show As.length - ((k : Int) + 1).toNat < As.length - ((k : Int)).toNat
                rw [show ((k : Int) + 1).toNat = k + 1 from rfl, Int.toNat_natCast]
                omega
        · obtain rfl : j = n := by omega
          have hff : Hid (fin = false) := Lib.hid (by
            rw [HFr.out, hasAll, HFF.out, HN.out, ff_end])
          go_wp2
          go_ret
          refine ⟨?_, HB2.out⟩
          rw [hff.out]
          rfl
    · obtain rfl : k = As.length := by omega
      go_wp2
      go_ret
      refine ⟨?_, HBr.out⟩
      have := HFr.out
      rw [List.drop_length, hasAll] at this
      rw [this]
      rfl
end Go.Proofs.YtcohjechpnlogaaDoor.Dn
