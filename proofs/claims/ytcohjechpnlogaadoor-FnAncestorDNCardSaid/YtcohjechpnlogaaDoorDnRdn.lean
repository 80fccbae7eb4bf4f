/- (*RelativeDN).Equal and EqualFold. -/
import Derived.Test.YtcohjechpnlogaaDoorDnHas
import Derived.Deep.RegionWith
import Derived.Deep.QuietTactic
import Derived.BigQuiet
namespace Go.Proofs.YtcohjechpnlogaaDoor.Dn
open Go.RowKit Go.Proofs.YtcohjechpnlogaaDoorW.PrintWords Go.Proofs.YtcohjechpnlogaaDoor.PDN
set_option linter.unusedVariables false
set_option linter.unusedSimpArgs false

/-- parts are equal, as the package compares them -/
def rdnEq (fold : Bool) (R S : List S53) : Bool := if R.length ≠ S.length then false else hasAll fold R (List.replicate R.length false) S && hasAll fold S (List.replicate S.length false) R

set_option maxHeartbeats 800000 in
set_option maxRecDepth 100000 in
theorem rdn_equal (R S : List S53) (b c : Nat) (w : World) (hR : IsR w b R) (hS : IsR w c S) (pR : ∀ x ∈ R, PlainA x) (pS : ∀ x ∈ S, PlainA x) (nR : R.length < 1000) (nS : S.length < 1000) :
    Calls Tryd.prog 50 #[.pointer (some ⟨b, 0, none⟩), .pointer (some ⟨c, 0, none⟩)] w fun e w' => e = .returned (.bool (rdnEq false R S)) ∧ Below w.heap.size w w' := by
  have HR := Lib.hid hR
  have HS := Lib.hid hS
  obtain ⟨AR, cR, hb, lR, hCR⟩ := hR
  obtain ⟨AS, cS, hc, lS, hCS⟩ := hS
  have r0 : w.cell? ⟨b, 0, none⟩ = some (.slice AR R.length cR) := blk_cell hb 0
  have s0 : w.cell? ⟨c, 0, none⟩ = some (.slice AS S.length cS) := blk_cell hc 0
  have HBB := Lib.hid hb
  have HCR := Lib.hid hCR
  have HCS := Lib.hid hCS
  obtain ⟨fin, hfin⟩ : ∃ fin, fin = rdnEq false R S := ⟨_, rfl⟩
  rw [← hfin]
  have HF := Lib.hid hfin
  have HPR := Lib.hid pR
  have HPS := Lib.hid pS
  clear hb hc hCR hCS lR lS hfin pR pS
  by_cases hl : R.length = S.length
  · obtain ⟨p, hp⟩ : ∃ p, p = hasAll false R (List.replicate R.length false) S := ⟨_, rfl⟩
    obtain ⟨q, hq⟩ : ∃ q, q = hasAll false S (List.replicate S.length false) R := ⟨_, rfl⟩
    have hfin : Hid (fin = (p && q)) := Lib.hid (by rw [HF.out, rdnEq, if_neg (fun h => h hl), ← hp, ← hq])
    have hc1 := (fun W (hB : Below w.heap.size w W) => hp ▸ hasAll_equal R S b AS cS W (HR.out.below hB) (Kd.C_below HCS.out hB) HPR.out HPS.out nR nS)
    have hc2 := (fun W (hB : Below w.heap.size w W) => hq ▸ hasAll_equal S R c AR cR W (HS.out.below hB) (Kd.C_below HCR.out hB) HPS.out HPR.out nS nR)
    simp only [hl] at hc1 hc2 r0
    have HC1 := Lib.hid hc1
    have HC2 := Lib.hid hc2
    have R0 : Hid (∀ W, Below w.heap.size w W → W.cell? ⟨b, 0, none⟩ = some (.slice AR S.length cR)) := Lib.hid (fun W hB => by rw [← hl]; exact blk_cell (blk_below HBB.out hB) 0)
    clear hc1 hc2 hp hq HF
    cases p with
    | false =>
      go_enter Tryd.func50, Tryd.ntmps50
      go_wp2
      go_quiet (fail)
      go_wp2_with (first
                | (go_at_call 57
                   with_reducible refine (HC1.out _ (pw_below_drewN (Below.refl _ _) _)).mono ?_
                   rintro e W1 ⟨rfl, hB1⟩
                   have HB1 : Hid (Below w.heap.size w W1) := Lib.hid ((pw_below_drewN (Below.refl w.heap.size w) nq).trans hB1)
                   have r1 := R0.out W1 HB1.out
                   clear hB1))
      go_ret
      refine ⟨?_, HB1.out⟩
      rw [hfin.out]
      rfl
    | true =>
      go_enter Tryd.func50, Tryd.ntmps50
      go_wp2
      go_quiet (fail)
      go_wp2_with (first
                | (go_at_call 57
                   with_reducible refine (HC1.out _ (pw_below_drewN (Below.refl _ _) _)).mono ?_
                   rintro e W1 ⟨rfl, hB1⟩
                   have HB1 : Hid (Below w.heap.size w W1) := Lib.hid ((pw_below_drewN (Below.refl w.heap.size w) nq).trans hB1)
                   have r1 := R0.out W1 HB1.out
                   clear hB1 HC1)
                | (go_at_call 57
                   with_reducible refine (HC2.out _ HB1.out).mono ?_
                   rintro e W2 ⟨rfl, hB2⟩))
      go_ret
      refine ⟨?_, HB1.out.trans (hB2.mono HB1.out.size)⟩
      rw [hfin.out]
      rfl
  · have hfin : Hid (fin = false) := Lib.hid (by rw [HF.out, rdnEq, if_pos hl])
    go_enter Tryd.func50, Tryd.ntmps50
    go_wp2
    go_quiet (fail)
    go_wp2
    go_ret
    refine ⟨?_, pw_below_drewN (Below.refl _ _) _⟩
    rw [hfin.out]
    rfl

set_option maxHeartbeats 800000 in
set_option maxRecDepth 100000 in
theorem rdn_fold (R S : List S53) (b c : Nat) (w : World) (hR : IsR w b R) (hS : IsR w c S) (pR : ∀ x ∈ R, PlainA x) (pS : ∀ x ∈ S, PlainA x) (nR : R.length < 1000) (nS : S.length < 1000) :
    Calls Tryd.prog 52 #[.pointer (some ⟨b, 0, none⟩), .pointer (some ⟨c, 0, none⟩)] w fun e w' => e = .returned (.bool (rdnEq true R S)) ∧ Below w.heap.size w w' := by
  have HR := Lib.hid hR
  have HS := Lib.hid hS
  obtain ⟨AR, cR, hb, lR, hCR⟩ := hR
  obtain ⟨AS, cS, hc, lS, hCS⟩ := hS
  have r0 : w.cell? ⟨b, 0, none⟩ = some (.slice AR R.length cR) := blk_cell hb 0
  have s0 : w.cell? ⟨c, 0, none⟩ = some (.slice AS S.length cS) := blk_cell hc 0
  have HBB := Lib.hid hb
  have HCR := Lib.hid hCR
  have HCS := Lib.hid hCS
  obtain ⟨fin, hfin⟩ : ∃ fin, fin = rdnEq true R S := ⟨_, rfl⟩
  rw [← hfin]
  have HF := Lib.hid hfin
  have HPR := Lib.hid pR
  have HPS := Lib.hid pS
  clear hb hc hCR hCS lR lS hfin pR pS
  by_cases hl : R.length = S.length
  · obtain ⟨p, hp⟩ : ∃ p, p = hasAll true R (List.replicate R.length false) S := ⟨_, rfl⟩
    obtain ⟨q, hq⟩ : ∃ q, q = hasAll true S (List.replicate S.length false) R := ⟨_, rfl⟩
    have hfin : Hid (fin = (p && q)) := Lib.hid (by rw [HF.out, rdnEq, if_neg (fun h => h hl), ← hp, ← hq])
    have hc1 := (fun W (hB : Below w.heap.size w W) => hp ▸ hasAll_fold R S b AS cS W (HR.out.below hB) (Kd.C_below HCS.out hB) HPR.out HPS.out nR nS)
    have hc2 := (fun W (hB : Below w.heap.size w W) => hq ▸ hasAll_fold S R c AR cR W (HS.out.below hB) (Kd.C_below HCR.out hB) HPS.out HPR.out nS nR)
    simp only [hl] at hc1 hc2 r0
    have HC1 := Lib.hid hc1
    have HC2 := Lib.hid hc2
    have R0 : Hid (∀ W, Below w.heap.size w W → W.cell? ⟨b, 0, none⟩ = some (.slice AR S.length cR)) := Lib.hid (fun W hB => by rw [← hl]; exact blk_cell (blk_below HBB.out hB) 0)
    clear hc1 hc2 hp hq HF
    cases p with
    | false =>
      go_enter Tryd.func52, Tryd.ntmps52
      go_wp2
      go_quiet (fail)
      go_wp2_with (first
                | (go_at_call 58
                   with_reducible refine (HC1.out _ (pw_below_drewN (Below.refl _ _) _)).mono ?_
                   rintro e W1 ⟨rfl, hB1⟩
                   have HB1 : Hid (Below w.heap.size w W1) := Lib.hid ((pw_below_drewN (Below.refl w.heap.size w) nq).trans hB1)
                   have r1 := R0.out W1 HB1.out
                   clear hB1))
      go_ret
      refine ⟨?_, HB1.out⟩
      rw [hfin.out]
      rfl
    | true =>
      go_enter Tryd.func52, Tryd.ntmps52
      go_wp2
      go_quiet (fail)
      go_wp2_with (first
                | (go_at_call 58
                   with_reducible refine (HC1.out _ (pw_below_drewN (Below.refl _ _) _)).mono ?_
                   rintro e W1 ⟨rfl, hB1⟩
                   have HB1 : Hid (Below w.heap.size w W1) := Lib.hid ((pw_below_drewN (Below.refl w.heap.size w) nq).trans hB1)
                   have r1 := R0.out W1 HB1.out
                   clear hB1 HC1)
                | (go_at_call 58
                   with_reducible refine (HC2.out _ HB1.out).mono ?_
                   rintro e W2 ⟨rfl, hB2⟩))
      go_ret
      refine ⟨?_, HB1.out.trans (hB2.mono HB1.out.size)⟩
      rw [hfin.out]
      rfl
  · have hfin : Hid (fin = false) := Lib.hid (by rw [HF.out, rdnEq, if_pos hl])
    go_enter Tryd.func52, Tryd.ntmps52
    go_wp2
    go_quiet (fail)
    go_wp2
    go_ret
    refine ⟨?_, pw_below_drewN (Below.refl _ _) _⟩
    rw [hfin.out]
    rfl
end Go.Proofs.YtcohjechpnlogaaDoor.Dn
