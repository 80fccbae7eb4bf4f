/- impl.dn: a name of the package, out of data. -/
import Derived.Test.YtcohjechpnlogaaDoorDnKinds
import Derived.Deep.RegionLaw
import Derived.Deep.DrawnRows
namespace Go.Proofs.YtcohjechpnlogaaDoor.Dn
open Go.RowKit Go.Proofs.YtcohjechpnlogaaDoorW.PrintWords Go.Proofs.YtcohjechpnlogaaDoor.PDN
set_option linter.unusedVariables false
set_option linter.unusedSimpArgs false

theorem infoPA : (Tryd.prog.info? TPA).map (fun i => (i.zero, i.size, i.bytes)) = some (some (.pointer none), 1, 8) := by kernel_rfl
theorem infoPR : (Tryd.prog.info? TPR).map (fun i => (i.zero, i.size, i.bytes)) = some (some (.pointer none), 1, 8) := by kernel_rfl

/-- a part that is being built: its struct at X, its row -/
structure InR (w0 W : World) (v : Value) (xs : List S53) : Prop where
  below : Below w0.heap.size w0 W
  box : W.heap[w0.heap.size]? = some (.cells #[v] TR (0, 0))
  row : kA.R TPA W w0.heap.size (fun k => k ≠ w0.heap.size) v xs
/-- a name that is being built -/
structure InD (w0 W : World) (v : Value) (xs : List (List S53)) : Prop where
  below : Below w0.heap.size w0 W
  box : W.heap[w0.heap.size]? = some (.cells #[v] TD (0, 0))
  row : kR.R TPR W w0.heap.size (fun k => k ≠ w0.heap.size) v xs

theorem inR_first (w : World) : InR w (w.alloc (.cells #[.slice none 0 0] TR)) (.slice none 0 0) [] :=
  ⟨below_alloc (Below.refl _ _) _, blk_new _ _, Kd.R_nil _ _ _ _ _⟩
theorem inD_first (w : World) : InD w (w.alloc (.cells #[.slice none 0 0] TD)) (.slice none 0 0) [] :=
  ⟨below_alloc (Below.refl _ _) _, blk_new _ _, Kd.R_nil _ _ _ _ _⟩
theorem InD.step {w0 W W' : World} {v : Value} {xs : List (List S53)} (h : InD w0 W v xs) (hb : Below W.heap.size W W') : InD w0 W' v xs :=
  ⟨h.below.trans (hb.mono h.below.size), blk_below h.box hb, Kd.R_below h.row hb⟩
theorem InR.step {w0 W W' : World} {v : Value} {xs : List S53} (h : InR w0 W v xs) (hb : Below W.heap.size W W') : InR w0 W' v xs :=
  ⟨h.below.trans (hb.mono h.below.size), blk_below h.box hb, Kd.R_below h.row hb⟩

/-- what was built, read -/
theorem InD.is {w0 W : World} {v : Value} {xs : List (List S53)} (h : InD w0 W v xs) : IsD W w0.heap.size xs := by
  obtain ⟨A, c, rfl, hl, hc⟩ := Kd.R_reads h.row
  exact ⟨A, c, h.box, hl, hc⟩
/-- a part that was built, as the name's own -/
theorem InR.m {w0 W : World} {v : Value} {xs : List S53} (h : InR w0 W v xs) {base : Nat} (hb : base ≤ w0.heap.size) : kR.M W base (fun k => w0.heap.size ≤ k) xs [.pointer (some ⟨w0.heap.size, 0, none⟩)] := by
  refine ⟨w0.heap.size, #[v], rfl, ⟨Nat.le_refl _, hb⟩, h.box, v, rfl, ?_⟩
  exact Kd.R_lower (Kd.R_mono (Kd.R_bound h.row) (fun k hk => ⟨hk.2.1, hk.1⟩)) hb

/-- one attribute more -/
theorem InR.app {w0 W w1 : World} {u v1 : Value} {xs : List S53} {x : S53} (h : InR w0 W u xs) (hR : kA.R TPA w1 w0.heap.size (fun k => k ≠ w0.heap.size) v1 (xs ++ [x])) (hb : Below w0.heap.size w0 w1) (hg : W.grownBy w1 u.ownBlock) : InR w0 (w1.setCell ⟨w0.heap.size, 0, none⟩ v1) v1 (xs ++ [x]) := by
  have hne : some w0.heap.size ≠ u.ownBlock := fun e => h.row.1 _ e.symm rfl
  exact ⟨hb.setCell (p := ⟨w0.heap.size, 0, none⟩) (Nat.le_refl _) v1, blk_set (blk_grown h.box hg hne) 0 v1, Kd.R_far hR (p := ⟨w0.heap.size, 0, none⟩) (fun k hk => hk) v1⟩
theorem InD.app {w0 W w1 : World} {u v1 : Value} {xs : List (List S53)} {x : List S53} (h : InD w0 W u xs) (hR : kR.R TPR w1 w0.heap.size (fun k => k ≠ w0.heap.size) v1 (xs ++ [x])) (hb : Below w0.heap.size w0 w1) (hg : W.grownBy w1 u.ownBlock) : InD w0 (w1.setCell ⟨w0.heap.size, 0, none⟩ v1) v1 (xs ++ [x]) := by
  have hne : some w0.heap.size ≠ u.ownBlock := fun e => h.row.1 _ e.symm rfl
  exact ⟨hb.setCell (p := ⟨w0.heap.size, 0, none⟩) (Nat.le_refl _) v1, blk_set (blk_grown h.box hg hne) 0 v1, Kd.R_far hR (p := ⟨w0.heap.size, 0, none⟩) (fun k hk => hk) v1⟩
theorem kA_new (w : World) (x : S53) (base : Nat) (hb : base ≤ w.heap.size) : kA.M (w.alloc (.cells #[.string x.f0, .string x.f1] TA)) base (fun k => k = w.heap.size) x [.pointer (some ⟨w.heap.size, 0, none⟩)] :=
  ⟨w.heap.size, #[.string x.f0, .string x.f1], rfl, ⟨rfl, hb⟩, blk_new _ _, k53_mkM _ _ _ x⟩

set_option maxHeartbeats 800000 in
set_option maxRecDepth 100000 in
theorem dn_any (l : List (List S53)) (A : Option Addr) (c : Nat) (w : World) (hC : (Kd.slice 53 k53).C w A l.length l) (hn : l.length < 1000) (hr : ∀ r ∈ l, r.length < 1000) :
    Calls Tryd.prog 34 #[.slice A l.length c] w fun e w' => ∃ b, e = .returned (.pointer (some ⟨b, 0, none⟩)) ∧ IsD w' b l ∧ Below w.heap.size w w' := by
  have HC := Lib.hid hC
  have HN := Lib.hid hr
  have HD0 := Lib.hid (inD_first w)
  obtain ⟨W0, hW0⟩ : ∃ W0, W0 = w.alloc (.cells #[.slice none 0 0] TD) := ⟨_, rfl⟩
  rw [← hW0] at HD0
  have HW0 := Lib.hid hW0
  clear hC hr hW0
  go_enter Tryd.func34, Tryd.ntmps34
  go_wp2
  rw [← HW0.out]
  go_loopw [13] (fun iv wr => ∃ (k : Nat) (v : Value), iv = .int .i64 k ∧ k ≤ l.length ∧ Hid (InD w wr v (l.take k))) (fun iv _ => l.length - (intOf iv).toNat)
  case atStart => exact ⟨0, _, rfl, Nat.zero_le _, HD0⟩
  case round =>
    obtain ⟨k, v, rfl, hk, HD⟩ := hrel
    clear HD0
    obtain ⟨wo, rfl⟩ : ∃ x, x = wr := ⟨wr, rfl⟩
    by_cases hlt : k < l.length
    · obtain ⟨ad, A2, c2, rfl, hca, l2, hC2⟩ := at_L3 HC.out (k : Int) (by omega) (by omega)
      rw [Int.toNat_natCast] at hca
      obtain ⟨r, hrd⟩ : ∃ r, r = rd_L3 l (k : Int) := ⟨_, rfl⟩
      rw [← hrd] at hca l2 hC2
      have hmem : r = l[k] := by rw [hrd, rd_L3, Int.toNat_natCast, List.getD_eq_getElem?_getD, List.getElem?_eq_getElem hlt]; rfl
      have hrn : r.length < 1000 := HN.out r (by rw [hmem]; exact List.getElem_mem hlt)
      have hca' := (HD.out.below.cell (World.block_lt_of_cell? w _ hca)).trans hca
      have HR0 := Lib.hid (inR_first wo)
      have HD1 := Lib.hid (HD.out.step (below_alloc (Below.refl _ wo) (.cells #[.slice none 0 0] TR)))
      obtain ⟨W1, hW1⟩ : ∃ W1, W1 = wo.alloc (.cells #[.slice none 0 0] TR) := ⟨_, rfl⟩
      rw [← hW1] at HR0 HD1
      have HW1 := Lib.hid hW1
      have HC2 := Lib.hid hC2
      have HMEM := Lib.hid hmem
      clear hca hrd hC2 hW1 hmem
      go_wp2
      rw [← HW1.out]
      go_loopw [21] (fun jv w2 => ∃ (j : Nat) (u : Value), jv = .int .i64 j ∧ j ≤ r.length ∧ Hid (InR wo w2 u (r.take j))) (fun jv _ => r.length - (intOf jv).toNat)
      case atStart => exact ⟨0, _, rfl, Nat.zero_le _, HR0⟩
      case round =>
        obtain ⟨j, u, rfl, hj, HI⟩ := hrel
        clear HR0
        by_cases hjl : j < r.length
        · obtain ⟨ad2, rfl, e0, e1⟩ := at_T53 HC2.out (j : Int) (by omega) (by omega)
          rw [Int.toNat_natCast] at e0 e1
          obtain ⟨x, hx⟩ : ∃ x, x = rd_T53 r (j : Int) := ⟨_, rfl⟩
          rw [← hx] at e0 e1
          have hxr : x = r[j] := by rw [hx, rd_T53, Int.toNat_natCast, List.getD_eq_getElem?_getD, List.getElem?_eq_getElem hjl]; rfl
          have hBw : Below w.heap.size w wr := HD.out.below.trans (HI.out.below.mono HD.out.below.size)
          have e0' := (hBw.cell (World.block_lt_of_cell? w _ e0)).trans e0
          have e1' := (hBw.cell (World.block_lt_of_cell? w _ e1)).trans e1
          have HXR := Lib.hid hxr
          clear e0 e1 hx hxr hBw
          go_wp2_with fail
          obtain ⟨W5, hW5⟩ : ∃ W5, W5 = wr.alloc (.cells #[.string x.f0, .string x.f1] 53) := ⟨_, rfl⟩
          rw [← hW5]
          have hb5 : Below wr.heap.size wr W5 := by rw [hW5]; exact below_alloc (Below.refl _ _) _
          have hn5 : W5.heap[wr.heap.size]? = some (.cells #[.string x.f0, .string x.f1] 53 (0, 0)) := by rw [hW5]; exact blk_new _ _
          have HI5 := Lib.hid (HI.out.step hb5)
          have HB5 := Lib.hid hb5
          have s0 : W5.cell? ⟨wo.heap.size, 0, none⟩ = some u := blk_cell HI5.out.box 0
          have s1 : ∀ o, (W5.alloc o).cell? ⟨wo.heap.size, 0, none⟩ = some u := fun o => blk_cell (blk_alloc HI5.out.box o) 0
          have s2 : ∀ o o', ((W5.alloc o).alloc o').cell? ⟨wo.heap.size, 0, none⟩ = some u := fun o o' => blk_cell (blk_alloc (blk_alloc HI5.out.box o) o') 0
          have n0 : W5.cell? ⟨wr.heap.size, 0, none⟩ = some (.string x.f0) := blk_cell hn5 0
          have n1 : W5.cell? ⟨wr.heap.size, 1, none⟩ = some (.string x.f1) := blk_cell hn5 1
          clear hW5 hb5 hn5 e0' e1'
          obtain ⟨W6, hW6⟩ : ∃ W6, W6 = W5.drew.alloc (.cells #[.string x.f0, .string x.f1] TA) := ⟨_, rfl⟩
          have hI6 : InR wo W6 u (r.take j) := by rw [hW6]; exact HI5.out.step (below_alloc (Below.refl _ W5).drew _)
          have hM6 : kA.M W6 wo.heap.size (fun k => k = W5.heap.size) x [.pointer (some ⟨W5.heap.size, 0, none⟩)] := by rw [hW6]; exact kA_new W5.drew x wo.heap.size HI5.out.below.size
          have hs6 : wo.heap.size < W5.heap.size := blk_lt HI5.out.box
          have hlt5 : ∀ k, u.ownBlock = some k → k < W5.heap.size := fun k hk => own_lt HI5.out.row.2.choose_spec.1 k hk
          have HKP : Hid (∀ k, k = W5.heap.size → k ≠ wo.heap.size ∧ some k ≠ u.ownBlock) := Lib.hid (fun k hk => ⟨by omega, fun e => by have := hlt5 k e.symm; omega⟩)
          have HFR : Hid (∀ k, W6.heap.size ≤ k → k ≠ wo.heap.size) := Lib.hid (fun k hk => by have := blk_lt hI6.box; omega)
          have HI6 := Lib.hid hI6
          have HM6 := Lib.hid hM6
          have HSZ : Hid (W6.heap.size = W5.heap.size + 1) := Lib.hid (by rw [hW6]; simp)
          have HW6 : Hid (∀ o, ((W5.alloc (.cells #[.string x.f0, .string x.f1] 93)).alloc o).drew = W6.alloc o) := Lib.hid (fun o => by rw [hW6]; rfl)
          have hlen : ((r.take j).length + 1) * 8 ≤ 140737488355328 := by rw [List.length_take]; omega
          clear hI6 hM6 hW6 hs6 hlt5
          go_region_law ((rw [HW6.out]
                          refine Kd.R_append_step kA (w0 := wo) (W := W6) wo.heap.size (by rfl) (.tmp 29) (.tmp 36) 89 TPA (.pointer none) 8 (by rfl) Tryd.underlying89 infoPA rfl (by decide) (by decide) u (r.take j) x _ (fun k => k ≠ wo.heap.size) (fun k => k = W5.heap.size) (by rfl) (by rw [HSZ.out]; rfl) HM6.out HKP.out HFR.out HI6.out.row HI6.out.below HI6.out.below.size hlen ?_
                          intro v1 w1 hR1 hb1 hg1 hat1
                          have hne : some wo.heap.size ≠ u.ownBlock := fun e => HI6.out.row.1 _ e.symm rfl
                          have x0 : w1.cell? ⟨wo.heap.size, 0, none⟩ = some u := blk_cell (blk_grown HI6.out.box hg1 hne) 0
                          have xf : w1.frozen? ⟨wo.heap.size, 0, none⟩ = false := blk_frozen (blk_grown HI6.out.box hg1 hne) 0
                          obtain ⟨Aq, cq, hvq, _, _⟩ := Kd.R_reads hR1
                          subst hvq
                          have h7 := HI6.out.app hR1 hb1 hg1
                          simp only [List.length_append, List.length_singleton, List.length_take, Nat.min_eq_left hj] at h7
                          have HI7 := Lib.hid h7
                          clear h7 hR1 hb1 hg1 hat1 hne))
          all_goals (
            go_wp2
            refine ⟨⟨j + 1, _, rfl, hjl, Lib.hid (by
              rw [List.take_succ_eq_append_getElem hjl, ← HXR.out]
              exact HI7.out)⟩, ?_⟩
            show r.length - ((j : Int) + 1).toNat < r.length - ((j : Int)).toNat
            rw [show ((j : Int) + 1).toNat = j + 1 from rfl, Int.toNat_natCast]
            clear hlen
            omega)
        · obtain rfl : j = r.length := by omega
          have hD : InD w wr v (l.take k) := HD.out.step HI.out.below
          have hr : InR wo wr u r := by
            have := HI.out
            rwa [List.take_length] at this
          have c0 : wr.cell? ⟨w.heap.size, 0, none⟩ = some v := blk_cell hD.box 0
          have c1 : ∀ o, (wr.alloc o).cell? ⟨w.heap.size, 0, none⟩ = some v := fun o => blk_cell (blk_alloc hD.box o) 0
          have hlo : w.heap.size < wo.heap.size := blk_lt HD.out.box
          have hvk : ∀ q, v.ownBlock = some q → q < wo.heap.size := fun q hq => own_lt HD.out.row.2.choose_spec.1 q hq
          have HM := Lib.hid (hr.m (base := w.heap.size) (Nat.le_of_lt hlo))
          have HK : Hid (∀ q, wo.heap.size ≤ q → q ≠ w.heap.size ∧ some q ≠ v.ownBlock) := Lib.hid (fun q hq => ⟨by omega, fun e => by have := hvk q e.symm; omega⟩)
          have HFR : Hid (∀ q, wr.heap.size ≤ q → q ≠ w.heap.size) := Lib.hid (fun q hq => by have := blk_lt hD.box; omega)
          have hlen : ((l.take k).length + 1) * 8 ≤ 140737488355328 := by rw [List.length_take]; omega
          have HDD := Lib.hid hD
          have hm : l.length - ((k : Int) + 1).toNat < l.length - ((k : Int)).toNat := by
            rw [show ((k : Int) + 1).toNat = k + 1 from rfl, Int.toNat_natCast]
            omega
          have HME := Lib.hid hm
          clear hD hr hlo hvk hm HI
          go_wp2_with (at_builtin
                       refine Kd.R_append kR (w0 := w) (W := wr) w.heap.size rfl (.tmp 45) (.tmp 47) 85 TPR (.pointer none) 8 rfl Tryd.underlying85 infoPR rfl (by decide) (by decide) v (l.take k) r _ (fun q => q ≠ w.heap.size) (fun q => wo.heap.size ≤ q) rfl rfl HM.out HK.out HFR.out HDD.out.row HDD.out.below HDD.out.below.size hlen ?_
                       intro v1 w1 hR1 hb1 hg1 hat1
                       have hne : some w.heap.size ≠ v.ownBlock := fun e => HDD.out.row.1 _ e.symm rfl
                       have x0 : w1.cell? ⟨w.heap.size, 0, none⟩ = some v := blk_cell (blk_grown HDD.out.box hg1 hne) 0
                       have xf : w1.frozen? ⟨w.heap.size, 0, none⟩ = false := blk_frozen (blk_grown HDD.out.box hg1 hne) 0
                       obtain ⟨Aq, cq, hvq, _, _⟩ := Kd.R_reads hR1
                       subst hvq
                       have h7 := HDD.out.app hR1 hb1 hg1
                       simp only [List.length_append, List.length_singleton, List.length_take, Nat.min_eq_left hk] at h7
                       have HI7 := Lib.hid h7
                       clear h7 hR1 hb1 hg1 hat1 hne)
          refine ⟨⟨k + 1, _, rfl, hlt, Lib.hid (by
              rw [List.take_succ_eq_append_getElem hlt, ← HMEM.out]
              exact HI7.out)⟩, HME.out⟩
    · obtain rfl : k = l.length := by omega
      have his := HD.out.is
      rw [List.take_length] at his
      have HI := Lib.hid his
      have HB := Lib.hid HD.out.below
      clear his HD
      go_wp2
      go_ret
      exact ⟨_, rfl, HI.out, HB.out⟩
end Go.Proofs.YtcohjechpnlogaaDoor.Dn
