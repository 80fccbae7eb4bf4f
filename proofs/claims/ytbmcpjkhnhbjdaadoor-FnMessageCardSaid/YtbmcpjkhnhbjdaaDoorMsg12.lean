/- Parts of the proof of one law, in the order in which they build. laws.control at the plain control. -/
import Derived.Test.YtbmcpjkhnhbjdaaDoorMsg1
import Derived.Test.YtbmcpjkhnhbjdaaDoorMsg2
import Derived.Test.YtbmcpjkhnhbjdaaDoorMsg3
import Derived.Test.YtbmcpjkhnhbjdaaDoorMsg4
import Derived.Test.YtbmcpjkhnhbjdaaDoorMsg5
import Derived.Test.YtbmcpjkhnhbjdaaDoorMsg6
import Derived.Test.YtbmcpjkhnhbjdaaDoorMsg7
import Derived.Test.YtbmcpjkhnhbjdaaDoorMsg8
import Derived.Test.YtbmcpjkhnhbjdaaDoorMsg9
import Derived.Test.YtbmcpjkhnhbjdaaDoorMsg10
import Derived.Test.YtbmcpjkhnhbjdaaDoorMsg11
namespace Go.Proofs.YtbmcpjkhnhbjdaaDoor.Ber
open Go.RowKit Go.Proofs.YtbmcpjkhnhbjdaaDoorW.PrintWords Go.Proofs.YtbmcpjkhnhbjdaaDoor.PFnEncode Go.Proofs.YtbmcpjkhnhbjdaaDoorW.PrintLast Go.Proofs.YtbmcpjkhnhbjdaaDoor.Tree Go.Proofs.YtbmcpjkhnhbjdaaDoor.Buf Go.Proofs.YtbmcpjkhnhbjdaaDoor.Pk Go.Proofs.YtbmcpjkhnhbjdaaDoor.Within Go.Proofs.YtbmcpjkhnhbjdaaDoor.Num
set_option linter.unusedVariables false
set_option linter.unusedSimpArgs false

set_option maxHeartbeats 3200000 in
set_option maxRecDepth 100000 in
theorem lctl0_any (o : ByteArray) (b : Bool) (v : List Int) (n : Int) (ck : List Int) (A3 : Option Addr) (c3 : Nat) (A5 : Option Addr) (c5 : Nat) (w : World) (ho : o.size ≤ 2147483647) (hC : (Kd.int .u8).C w A3 v.length v) (hv : v.length ≤ 2147483647) (dot : Bool) (hdot : ∃ k, spec_Dotted.f k o = some dot) :
    Calls Tryd.prog 39 #[.agg #[.int .i64 0, .string o, .bool b, .slice A3 v.length c3, .int .i64 n, .slice A5 ck.length c5]] w (LC w (sCtl o b (if v.isEmpty then [] else [strOfNums v])) (shortT [o, strOfNums v] && dot && (n == 0) && ((ck.length : Int) == 0))) := by
  obtain ⟨kd, hkd⟩ := hdot
  have HCV : Hid (∀ W, Below w.heap.size w W → (convert 24 9 (.slice A3 v.length c3)).run Tryd.prog W = .ok (.string (strOfNums v)) W) := Lib.hid (fun W hb => Kd.C_string Tryd.underlying24 Tryd.underlying5 Tryd.underlying9 (Kd.C_below hC hb))
  have hlen : (strOfNums v).size = v.length := by simp [strOfNums, ByteArray.size]
  have hll : ∀ x, x ∈ (if v.isEmpty then [] else [strOfNums v]) → x.size ≤ 1099511627776 := by
    intro x hx
    split at hx
    · cases hx
    · rw [List.mem_singleton.1 hx]
      omega
  have hln : (if v.isEmpty then [] else [strOfNums v]).length ≤ 1000 := by split <;> simp
  have HE : Hid (v.length = 0 → (if v.isEmpty then [] else [strOfNums v]) = []) := Lib.hid (fun h => by rw [List.eq_nil_of_length_eq_zero h]; rfl)
  have HNE : Hid (0 < v.length → (if v.isEmpty then [] else [strOfNums v]) = [strOfNums v]) := Lib.hid (fun h => by cases v with | nil => simp at h | cons _ _ => rfl)
  obtain ⟨s, hs⟩ : ∃ s, s = strOfNums v := ⟨_, rfl⟩
  rw [← hs] at HCV hll hln HE HNE hlen ⊢
  obtain ⟨l, hl⟩ : ∃ l, l = (if v.isEmpty then [] else [s]) := ⟨_, rfl⟩
  rw [← hl] at hll hln HE HNE ⊢
  have HSC0 : Hid (∀ (A1 : Option Addr) (c1 : Nat) (W : World), Kd.string.C W A1 l.length l → Calls Tryd.prog 74 #[.string o, .bool b, .slice A1 l.length c1] W (Nw W.heap.size W (sCtl o b l))) := Lib.hid (fun A1 c1 W h => sCtl_nw o b l A1 c1 W h (by omega) hll hln)
  have HSH : Hid (∀ (W : World) (nb : Nat), W.heap[nb]? = some (.cells #[.string o, .string s] 9 (0, 0)) → Calls Tryd.prog 10 #[.slice (some ⟨nb, 0, none⟩) 2 2] W fun e w' => e = .returned (.bool (shortT [o, s])) ∧ Below W.heap.size W w') := Lib.hid (fun W nb h => short_any [o, s] (some ⟨nb, 0, none⟩) 2 W (strs_block h rfl (by simp)) (Nat.le_refl _) (by simp))
  have HDO : Hid (∀ W, Calls Tryd.prog 75 #[.string o] W fun e w' => e = .returned (.bool dot) ∧ Below W.heap.size W w') := Lib.hid (fun W => (spec_Dotted.calls kd o dot W hkd).mono fun e w' h => ⟨h.1, h.2.below⟩)
  obtain ⟨sh, hsh⟩ : ∃ sh, sh = shortT [o, s] := ⟨_, rfl⟩
  rw [← hsh] at HSH ⊢
  obtain ⟨d, hd⟩ : ∃ d, d = sCtl o b l := ⟨_, rfl⟩
  simp only [← hd] at HSC0 ⊢
  obtain ⟨W0, hW0⟩ : ∃ W0, W0 = (w.alloc (.cells #[.int .i64 0, .string o, .bool b, .slice A3 v.length c3, .int .i64 n, .slice A5 ck.length c5] 79)).alloc (.cells #[.int .i64 0, .int .i64 0, .bool false, .slice none 0 0, .slice none 0 0] 33) := ⟨_, rfl⟩
  have HB0 : Hid (Below w.heap.size w W0) := Lib.hid (by rw [hW0]; exact below_alloc (below_alloc (Below.refl _ _) _) _)
  have HX0 : Hid (W0.heap[w.heap.size]? = some (.cells #[.int .i64 0, .string o, .bool b, .slice A3 v.length c3, .int .i64 n, .slice A5 ck.length c5] 79 (0, 0))) := Lib.hid (by rw [hW0]; exact blk_alloc (blk_new _ _) _)
  have HR0 : Hid (W0.heap[w.heap.size + 1]? = some (.cells #[.int .i64 0, .int .i64 0, .bool false, .slice none 0 0, .slice none 0 0] 33 (0, 0))) := Lib.hid (by rw [hW0]; exact two_new _ _ _ _ _)
  have HW0 := Lib.hid hW0
  clear hs hl hd hsh hW0 hll hln hlen ho hv hC hkd
  go_enter Tryd.func39, Tryd.ntmps39
  go_upto_if 12 with (fail)
  rw [← HW0.out]
  go_cut [4] (fun v4 wc => ∃ A1 n1 c1, v4 = .slice A1 n1 c1 ∧ Hid (n1 = l.length ∧ Kd.string.C wc A1 l.length l ∧ Below W0.heap.size W0 wc))
  case first =>
    rcases Nat.eq_zero_or_pos v.length with h0 | h0
    · have e1 : decide (0 < (v.length : Int)) = false := decide_eq_false (by omega)
      have e2 : decide (0 < v.length) = false := decide_eq_false (by omega)
      have HL0 := Lib.hid (HE.out h0)
      rw [e2]
      clear h0
      go_wp2
      go_meet
      case rel => exact ⟨none, 0, 0, rfl, Lib.hid ⟨by rw [HL0.out]; rfl, by rw [HL0.out]; exact Kd.C_nil _ _, Below.refl _ _⟩⟩
    · have e1 : decide (0 < (v.length : Int)) = true := decide_eq_true (by omega)
      have e2 : decide (0 < v.length) = true := decide_eq_true (by omega)
      have HL0 := Lib.hid (HNE.out h0)
      have hcv := HCV.out W0 HB0.out
      have a3 : W0.cell? ⟨w.heap.size, 3, none⟩ = some (.slice A3 v.length c3) := blk_cell HX0.out 3
      rw [e2]
      clear h0
      go_wp2
      go_meet
      case rel => exact ⟨some ⟨W0.heap.size, 0, none⟩, 1, 1, rfl, Lib.hid ⟨by rw [HL0.out]; rfl, by rw [HL0.out]; exact strs_block (l := [s]) (blk_new _ _) rfl (by simp), below_alloc (Below.refl _ _) _⟩⟩
  case rest =>
    obtain ⟨A1, n1, c1, rfl, hcut⟩ := hcut
    obtain ⟨hn1, hK1, hB1⟩ := hcut.out
    subst hn1
    have HB1 : Hid (Below w.heap.size w wc.drew) := Lib.hid (HB0.out.trans (hB1.mono HB0.out.size)).drew
    have HX0d : Hid (wc.drew.heap[w.heap.size]? = some (.cells #[.int .i64 0, .string o, .bool b, .slice A3 v.length c3, .int .i64 n, .slice A5 ck.length c5] 79 (0, 0))) := Lib.hid (by have h := blk_below HX0.out hB1; exact h)
    have HR0d : Hid (wc.drew.heap[w.heap.size + 1]? = some (.cells #[.int .i64 0, .int .i64 0, .bool false, .slice none 0 0, .slice none 0 0] 33 (0, 0))) := Lib.hid (by have h := blk_below HR0.out hB1; exact h)
    have HSC : Hid (∀ W, Below wc.drew.heap.size wc.drew W → Calls Tryd.prog 74 #[.string o, .bool b, .slice A1 l.length c1] W (Nw W.heap.size W d)) := Lib.hid (fun W hb => HSC0.out A1 c1 W (Kd.C_below hK1 ((Below.refl _ wc).drew.trans hb)))
    have HBR : Hid (Below wc.drew.heap.size wc.drew wc.drew) := Lib.hid (Below.refl _ _)
    clear hcut hK1 hB1 HE HNE
    go_wp2_with fail
    refine start_ (n := 31) (S := fun w' => w'.cell? ⟨w.heap.size, 1, none⟩ = some (.string o) ∧ w'.cell? ⟨w.heap.size, 2, none⟩ = some (.bool b) ∧ w'.cell? ⟨w.heap.size, 3, none⟩ = some (.slice A3 v.length c3) ∧ w'.cell? ⟨w.heap.size, 4, none⟩ = some (.int .i64 n) ∧ w'.cell? ⟨w.heap.size, 5, none⟩ = some (.slice A5 ck.length c5) ∧ (convert 24 9 (.slice A3 v.length c3)).run Tryd.prog w' = .ok (.string s) w') (ds := []) #[nN,nN,nN,nN,nN,nN,nN,nN,nN,nN,nN,nN,nN,nN,nN,nN,nN,nN,nN,nN,nN,nN,nN,nN,nN,nN,nN,nN,nN,nN,nN] (by kernel_rfl) rfl rfl ⟨blk_cell (HX0d.out) 1, blk_cell (HX0d.out) 2, blk_cell (HX0d.out) 3, blk_cell (HX0d.out) 4, blk_cell (HX0d.out) 5, HCV.out _ (HB1.out.trans ((HBR.out).mono HB1.out.size))⟩ (fun hHeld => ?_)
    obtain ⟨W1, hW1⟩ : ∃ W1, W1 = wc.drew := ⟨_, rfl⟩
    rw [← hW1] at HB1 HX0d HR0d HSC HBR hHeld ⊢
    clear hW1
    refine pure_ (i := 0) (N := some 17) (v := ?_) (a' := ?_) #[yY,nN,nN,nN,nN,nN,nN,nN,nN,nN,nN,nN,nN,nN,nN,nN,nN,nN,nN,nN,nN,nN,nN,nN,nN,nN,nN,nN,nN,nN,nN] rfl rfl (by kernel_rfl) (fun _ _ _ h => h) (Or.inl ⟨by rfl, ?_⟩) ?_ ?_
    rotate_left
    · intro w'
      go_simp
      with_reducible rfl
    rotate_left
    · simp only [Act.put, List.setIfInBounds_toArray, List.set_cons_zero, List.set_cons_succ, i64_w, i32_w]
      rfl
    refine pure_ (i := 2) (N := some 19) (v := ?_) (a' := ?_) #[yY,nN,yY,nN,nN,nN,nN,nN,nN,nN,nN,nN,nN,nN,nN,nN,nN,nN,nN,nN,nN,nN,nN,nN,nN,nN,nN,nN,nN,nN,nN] rfl rfl (by kernel_rfl) (fun _ _ _ h => h) (Or.inl ⟨by rfl, ?_⟩) ?_ ?_
    rotate_left
    · intro w'
      go_simp
      with_reducible rfl
    rotate_left
    · simp only [Act.put, List.setIfInBounds_toArray, List.set_cons_zero, List.set_cons_succ, i64_w, i32_w]
      rfl
    refine pure_ (i := 4) (N := some 21) (v := ?_) (a' := ?_) #[yY,nN,yY,nN,yY,nN,nN,nN,nN,nN,nN,nN,nN,nN,nN,nN,nN,nN,nN,nN,nN,nN,nN,nN,nN,nN,nN,nN,nN,nN,nN] rfl rfl (by kernel_rfl) (fun _ _ _ h => h) (Or.inl ⟨by rfl, ?_⟩) ?_ ?_
    rotate_left
    · intro w'
      go_simp
      with_reducible rfl
    rotate_left
    · simp only [Act.put, List.setIfInBounds_toArray, List.set_cons_zero, List.set_cons_succ, i64_w, i32_w]
      rfl
    refine pure_ (i := 6) (N := some 23) (v := ?_) (a' := ?_) #[yY,nN,yY,nN,yY,nN,yY,nN,nN,nN,nN,nN,nN,nN,nN,nN,nN,nN,nN,nN,nN,nN,nN,nN,nN,nN,nN,nN,nN,nN,nN] rfl rfl (by kernel_rfl) (fun _ _ _ h => h) (Or.inl ⟨by rfl, ?_⟩) ?_ ?_
    rotate_left
    · intro w'
      go_simp
      with_reducible rfl
    rotate_left
    · simp only [Act.put, List.setIfInBounds_toArray, List.set_cons_zero, List.set_cons_succ, i64_w, i32_w]
      rfl
    refine pure_ (i := 8) (N := some 25) (v := ?_) (a' := ?_) #[yY,nN,yY,nN,yY,nN,yY,nN,yY,nN,nN,nN,nN,nN,nN,nN,nN,nN,nN,nN,nN,nN,nN,nN,nN,nN,nN,nN,nN,nN,nN] rfl rfl (by kernel_rfl) (fun _ _ _ h => h) (Or.inl ⟨by rfl, ?_⟩) ?_ ?_
    rotate_left
    · intro w'
      go_simp
      with_reducible rfl
    rotate_left
    · simp only [Act.put, List.setIfInBounds_toArray, List.set_cons_zero, List.set_cons_succ, i64_w, i32_w]
      rfl
    refine take_ (i := 1) (N := some 18) (v := ?_) (a' := ?_) #[yY,yY,yY,nN,yY,nN,yY,nN,yY,nN,nN,nN,nN,nN,nN,nN,nN,nN,nN,nN,nN,nN,nN,nN,nN,nN,nN,nN,nN,nN,nN] rfl rfl (by kernel_rfl) (fun _ _ _ h => h) (Or.inl ⟨by rfl, ?_⟩) hHeld ?_ ?_
    rotate_left
    · rintro w' ⟨s0, s1, s2, s3, s4, s5⟩
      go_simp
      with_reducible rfl
    rotate_left
    · simp only [Act.put, List.setIfInBounds_toArray, List.set_cons_zero, List.set_cons_succ, i64_w, i32_w]
      rfl
    refine take_ (i := 3) (N := some 20) (v := ?_) (a' := ?_) #[yY,yY,yY,yY,yY,nN,yY,nN,yY,nN,nN,nN,nN,nN,nN,nN,nN,nN,nN,nN,nN,nN,nN,nN,nN,nN,nN,nN,nN,nN,nN] rfl rfl (by kernel_rfl) (fun _ _ _ h => h) (Or.inl ⟨by rfl, ?_⟩) hHeld ?_ ?_
    rotate_left
    · rintro w' ⟨s0, s1, s2, s3, s4, s5⟩
      go_simp
      with_reducible rfl
    rotate_left
    · simp only [Act.put, List.setIfInBounds_toArray, List.set_cons_zero, List.set_cons_succ, i64_w, i32_w]
      rfl
    refine take_ (i := 7) (N := some 24) (v := ?_) (a' := ?_) #[yY,yY,yY,yY,yY,nN,yY,yY,yY,nN,nN,nN,nN,nN,nN,nN,nN,nN,nN,nN,nN,nN,nN,nN,nN,nN,nN,nN,nN,nN,nN] rfl rfl (by kernel_rfl) (fun _ _ _ h => h) (Or.inl ⟨by rfl, ?_⟩) hHeld ?_ ?_
    rotate_left
    · rintro w' ⟨s0, s1, s2, s3, s4, s5⟩
      go_simp
      with_reducible rfl
    rotate_left
    · simp only [Act.put, List.setIfInBounds_toArray, List.set_cons_zero, List.set_cons_succ, i64_w, i32_w]
      rfl
    refine take_ (i := 9) (N := some 26) (v := ?_) (a' := ?_) #[yY,yY,yY,yY,yY,nN,yY,yY,yY,yY,nN,nN,nN,nN,nN,nN,nN,nN,nN,nN,nN,nN,nN,nN,nN,nN,nN,nN,nN,nN,nN] rfl rfl (by kernel_rfl) (fun _ _ _ h => h) (Or.inl ⟨by rfl, ?_⟩) hHeld ?_ ?_
    rotate_left
    · rintro w' ⟨s0, s1, s2, s3, s4, s5⟩
      go_simp
      with_reducible rfl
    rotate_left
    · simp only [Act.put, List.setIfInBounds_toArray, List.set_cons_zero, List.set_cons_succ, i64_w, i32_w]
      rfl
    refine take_ (i := 10) (N := some 27) (v := ?_) (a' := ?_) #[yY,yY,yY,yY,yY,nN,yY,yY,yY,yY,yY,nN,nN,nN,nN,nN,nN,nN,nN,nN,nN,nN,nN,nN,nN,nN,nN,nN,nN,nN,nN] rfl rfl (by kernel_rfl) (fun _ _ _ h => h) (Or.inl ⟨by rfl, ?_⟩) hHeld ?_ ?_
    rotate_left
    · rintro w' ⟨s0, s1, s2, s3, s4, s5⟩
      go_simp
      with_reducible rfl
    rotate_left
    · simp only [Act.put, List.setIfInBounds_toArray, List.set_cons_zero, List.set_cons_succ, i64_w, i32_w]
      rfl
    refine join_ (σ := Option Addr × Nat × Option Addr × Nat × Nat) 19 #[yY,yY,yY,yY,yY,yY,yY,yY,yY,yY,yY,yY,nN,nN,nN,nN,nN,nN,nN,nN,nN,nN,nN,nN,nN,nN,nN,nN,nN,nN,nN] (fun z => [(22, .agg #[.int .i64 d.f0, .int .i64 d.f1, .bool d.f2, .slice z.1 d.f3.length z.2.1, .slice z.2.2.1 d.f4.length z.2.2.2.1]), (28, .slice (some ⟨z.2.2.2.2, 0, none⟩) 2 2)]) (fun z w' => Below W1.heap.size W1 w' ∧ Lies W1.heap.size w' d z.1 z.2.1 z.2.2.1 z.2.2.2.1 ∧ w'.heap[z.2.2.2.2]? = some (.cells #[.string o, .string s] 9 (0, 0))) ?_ ?_
    rotate_left
    · intro hCont
      refine two_ (i := 5) (j := 11) (Ni := some 22) (Nj := some 28) #[yY,yY,yY,yY,yY,yY,yY,yY,yY,yY,yY,nN,nN,nN,nN,nN,nN,nN,nN,nN,nN,nN,nN,nN,nN,nN,nN,nN,nN,nN,nN] #[yY,yY,yY,yY,yY,nN,yY,yY,yY,yY,yY,yY,nN,nN,nN,nN,nN,nN,nN,nN,nN,nN,nN,nN,nN,nN,nN,nN,nN,nN,nN] rfl rfl rfl rfl (by kernel_rfl) (by decide) (by decide) (fun K hK => ?_) (fun K hK => ?_)
      · skip
        refine goes_ Tryd.func74 (by kernel_rfl) rfl #[.string o, .bool b, .slice A1 l.length c1] (by rfl) rfl rfl (by simp only [List.map_toArray, List.map_cons, List.map_nil]; rfl) ?_
        with_reducible refine (HSC.out _ HBR.out).mono ?_
        rintro e Wc hc
        obtain ⟨E3, q3, E4, q4, rfl, hlc, hBc⟩ := hc.open
        refine ⟨_, rfl, ?_⟩
        have HBc := Lib.hid ((HBR.out).trans (hBc.mono (HBR.out).size))
        have HLc := Lib.hid (hlc.low (HBR.out).size)
        clear hc hlc hBc
        refine hK.out _ _ ⟨blk_cell (blk_below HX0d.out HBc.out) 1, blk_cell (blk_below HX0d.out HBc.out) 2, blk_cell (blk_below HX0d.out HBc.out) 3, blk_cell (blk_below HX0d.out HBc.out) 4, blk_cell (blk_below HX0d.out HBc.out) 5, HCV.out _ (HB1.out.trans ((HBc.out).mono HB1.out.size))⟩ (fun hHeld => ?_)
        clear hK K
        refine norm_ (a' := ?_) ?_ ?_
        rotate_left
        · show Act.put _ (some 22) _ = _
          simp only [Act.put, List.setIfInBounds_toArray, List.set_cons_zero, List.set_cons_succ, i64_w, i32_w]
          rfl
        refine one_ (i := 11) (N := some 28) #[yY,yY,yY,yY,yY,yY,yY,yY,yY,yY,yY,yY,nN,nN,nN,nN,nN,nN,nN,nN,nN,nN,nN,nN,nN,nN,nN,nN,nN,nN,nN] rfl rfl (by kernel_rfl) (by decide) (fun K hK => ?_)
        refine value_ (w1 := ?_) (v := ?_) (by rfl) rfl ?_ ?_
        rotate_left 2
        · go_simp
          constructor
          · rfl
          · rfl
        obtain ⟨Wcn, hWcn⟩ : ∃ W, W = Wc.alloc (.cells #[.string o, .string s] 9) := ⟨_, rfl⟩
        rw [← hWcn]
        have HBcn : Hid (Below W1.heap.size W1 Wcn) := Lib.hid ((HBc.out).trans ((by rw [hWcn]; exact below_alloc (Below.refl _ _) _ : Below Wc.heap.size Wc Wcn).mono (HBc.out).size))
        have HNcn : Hid (Wcn.heap[Wc.heap.size]? = some (.cells #[.string o, .string s] 9 (0, 0))) := Lib.hid (by rw [hWcn]; exact blk_new _ _)
        have HLcn : Hid (Lies W1.heap.size Wcn d E3 q3 E4 q4) := Lib.hid (by rw [hWcn]; exact HLc.out.below (below_alloc (Below.refl _ _) _))
        clear hWcn
        refine hK.out _ _ ⟨blk_cell (blk_below HX0d.out HBcn.out) 1, blk_cell (blk_below HX0d.out HBcn.out) 2, blk_cell (blk_below HX0d.out HBcn.out) 3, blk_cell (blk_below HX0d.out HBcn.out) 4, blk_cell (blk_below HX0d.out HBcn.out) 5, HCV.out _ (HB1.out.trans ((HBcn.out).mono HB1.out.size))⟩ (fun hHeld => ?_)
        clear hK K
        refine norm_ (a' := ?_) ?_ ?_
        rotate_left
        · show Act.put _ (some 28) _ = _
          simp only [Act.put, List.setIfInBounds_toArray, List.set_cons_zero, List.set_cons_succ, i64_w, i32_w]
          rfl
        exact norm_ (by simp only [putAll, Act.put, List.setIfInBounds_toArray, List.set_cons_zero, List.set_cons_succ]) (hCont (E3, q3, E4, q4, Wc.heap.size) _ ⟨HBcn.out, HLcn.out, HNcn.out⟩)
      · skip
        refine value_ (w1 := ?_) (v := ?_) (by rfl) rfl ?_ ?_
        rotate_left 2
        · go_simp
          constructor
          · rfl
          · rfl
        obtain ⟨Wn, hWn⟩ : ∃ W, W = W1.alloc (.cells #[.string o, .string s] 9) := ⟨_, rfl⟩
        rw [← hWn]
        have HBn : Hid (Below W1.heap.size W1 Wn) := Lib.hid ((HBR.out).trans ((by rw [hWn]; exact below_alloc (Below.refl _ _) _ : Below W1.heap.size W1 Wn).mono (HBR.out).size))
        have HNn : Hid (Wn.heap[W1.heap.size]? = some (.cells #[.string o, .string s] 9 (0, 0))) := Lib.hid (by rw [hWn]; exact blk_new _ _)
        clear hWn
        refine hK.out _ _ ⟨blk_cell (blk_below HX0d.out HBn.out) 1, blk_cell (blk_below HX0d.out HBn.out) 2, blk_cell (blk_below HX0d.out HBn.out) 3, blk_cell (blk_below HX0d.out HBn.out) 4, blk_cell (blk_below HX0d.out HBn.out) 5, HCV.out _ (HB1.out.trans ((HBn.out).mono HB1.out.size))⟩ (fun hHeld => ?_)
        clear hK K
        refine norm_ (a' := ?_) ?_ ?_
        rotate_left
        · show Act.put _ (some 28) _ = _
          simp only [Act.put, List.setIfInBounds_toArray, List.set_cons_zero, List.set_cons_succ, i64_w, i32_w]
          rfl
        refine one_ (i := 5) (N := some 22) #[yY,yY,yY,yY,yY,yY,yY,yY,yY,yY,yY,yY,nN,nN,nN,nN,nN,nN,nN,nN,nN,nN,nN,nN,nN,nN,nN,nN,nN,nN,nN] rfl rfl (by kernel_rfl) (by decide) (fun K hK => ?_)
        refine goes_ Tryd.func74 (by kernel_rfl) rfl #[.string o, .bool b, .slice A1 l.length c1] (by rfl) rfl rfl (by simp only [List.map_toArray, List.map_cons, List.map_nil]; rfl) ?_
        with_reducible refine (HSC.out _ HBn.out).mono ?_
        rintro e Wnc hnc
        obtain ⟨E3, q3, E4, q4, rfl, hlnc, hBnc⟩ := hnc.open
        refine ⟨_, rfl, ?_⟩
        have HBnc := Lib.hid ((HBn.out).trans (hBnc.mono (HBn.out).size))
        have HLnc := Lib.hid (hlnc.low (HBn.out).size)
        have HNnc := Lib.hid (blk_below HNn.out hBnc)
        clear hBnc
        refine hK.out _ _ ⟨blk_cell (blk_below HX0d.out HBnc.out) 1, blk_cell (blk_below HX0d.out HBnc.out) 2, blk_cell (blk_below HX0d.out HBnc.out) 3, blk_cell (blk_below HX0d.out HBnc.out) 4, blk_cell (blk_below HX0d.out HBnc.out) 5, HCV.out _ (HB1.out.trans ((HBnc.out).mono HB1.out.size))⟩ (fun hHeld => ?_)
        clear hK K
        refine norm_ (a' := ?_) ?_ ?_
        rotate_left
        · show Act.put _ (some 22) _ = _
          simp only [Act.put, List.setIfInBounds_toArray, List.set_cons_zero, List.set_cons_succ, i64_w, i32_w]
          rfl
        exact norm_ (by simp only [putAll, Act.put, List.setIfInBounds_toArray, List.set_cons_zero, List.set_cons_succ]) (hCont (E3, q3, E4, q4, W1.heap.size) _ ⟨HBnc.out, HLnc.out, HNnc.out⟩)
    rintro ⟨E3, q3, E4, q4, nb⟩ WF ⟨hBF, hLF, hNF⟩
    have HBF := Lib.hid hBF
    have HLF := Lib.hid hLF
    have HNF := Lib.hid hNF
    clear hBF hLF hNF
    have hHeld : WF.cell? ⟨w.heap.size, 1, none⟩ = some (.string o) ∧ WF.cell? ⟨w.heap.size, 2, none⟩ = some (.bool b) ∧ WF.cell? ⟨w.heap.size, 3, none⟩ = some (.slice A3 v.length c3) ∧ WF.cell? ⟨w.heap.size, 4, none⟩ = some (.int .i64 n) ∧ WF.cell? ⟨w.heap.size, 5, none⟩ = some (.slice A5 ck.length c5) ∧ (convert 24 9 (.slice A3 v.length c3)).run Tryd.prog WF = .ok (.string s) WF := ⟨blk_cell (blk_below HX0d.out HBF.out) 1, blk_cell (blk_below HX0d.out HBF.out) 2, blk_cell (blk_below HX0d.out HBF.out) 3, blk_cell (blk_below HX0d.out HBF.out) 4, blk_cell (blk_below HX0d.out HBF.out) 5, HCV.out _ (HB1.out.trans ((HBF.out).mono HB1.out.size))⟩
    refine norm_ (a' := ?_) ?_ ?_
    rotate_left
    · simp only [putAll, Act.put, List.setIfInBounds_toArray, List.set_cons_zero, List.set_cons_succ]
      rfl
    refine one_ (i := 12) (N := some 29) #[yY,yY,yY,yY,yY,yY,yY,yY,yY,yY,yY,yY,yY,nN,nN,nN,nN,nN,nN,nN,nN,nN,nN,nN,nN,nN,nN,nN,nN,nN,nN] rfl rfl (by kernel_rfl) (by decide) (fun K hK => ?_)
    refine goes_ Tryd.func10 (by kernel_rfl) rfl #[.slice (some ⟨nb, 0, none⟩) 2 2] (by rfl) rfl rfl (by simp only [List.map_toArray, List.map_cons, List.map_nil]; rfl) ?_
    with_reducible refine (HSH.out _ _ HNF.out).mono ?_
    rintro e WS ⟨rfl, hBS⟩
    refine ⟨_, rfl, ?_⟩
    have HBS := Lib.hid (HBF.out.trans (hBS.mono HBF.out.size))
    have HLS := Lib.hid (HLF.out.below hBS)
    clear hBS HBF HLF HNF hHeld
    refine hK.out _ _ ⟨blk_cell (blk_below HX0d.out HBS.out) 1, blk_cell (blk_below HX0d.out HBS.out) 2, blk_cell (blk_below HX0d.out HBS.out) 3, blk_cell (blk_below HX0d.out HBS.out) 4, blk_cell (blk_below HX0d.out HBS.out) 5, HCV.out _ (HB1.out.trans ((HBS.out).mono HB1.out.size))⟩ (fun hHeld => ?_)
    clear hK K
    refine norm_ (a' := ?_) ?_ ?_
    rotate_left
    · show Act.put _ (some 29) _ = _
      simp only [Act.put, List.setIfInBounds_toArray, List.set_cons_zero, List.set_cons_succ, i64_w, i32_w]
      rfl
    refine pure_ (i := 13) (N := some 30) (v := ?_) (a' := ?_) #[yY,yY,yY,yY,yY,yY,yY,yY,yY,yY,yY,yY,yY,yY,nN,nN,nN,nN,nN,nN,nN,nN,nN,nN,nN,nN,nN,nN,nN,nN,nN] rfl rfl (by kernel_rfl) (fun _ _ _ h => h) (Or.inl ⟨by rfl, ?_⟩) ?_ ?_
    rotate_left
    · intro w'
      go_simp
      with_reducible rfl
    rotate_left
    · simp only [Act.put, List.setIfInBounds_toArray, List.set_cons_zero, List.set_cons_succ, i64_w, i32_w]
      rfl
    cases sh
    · skip
      refine pure_ (i := 14) (N := some 31) (v := undef) (a' := ?_) #[yY,yY,yY,yY,yY,yY,yY,yY,yY,yY,yY,yY,yY,yY,yY,nN,nN,nN,nN,nN,nN,nN,nN,nN,nN,nN,nN,nN,nN,nN,nN] rfl rfl (by kernel_rfl) (fun _ _ _ h => h) (Or.inr ⟨by rfl, rfl⟩) ?_ ?_
      rotate_left
      · simp only [Act.put, List.setIfInBounds_toArray, List.set_cons_zero, List.set_cons_succ, i64_w, i32_w]
        rfl
      refine pure_ (i := 15) (N := some 32) (v := undef) (a' := ?_) #[yY,yY,yY,yY,yY,yY,yY,yY,yY,yY,yY,yY,yY,yY,yY,yY,nN,nN,nN,nN,nN,nN,nN,nN,nN,nN,nN,nN,nN,nN,nN] rfl rfl (by kernel_rfl) (fun _ _ _ h => h) (Or.inr ⟨by rfl, rfl⟩) ?_ ?_
      rotate_left
      · simp only [Act.put, List.setIfInBounds_toArray, List.set_cons_zero, List.set_cons_succ, i64_w, i32_w]
        rfl
      refine pure_ (i := 16) (N := some 33) (v := undef) (a' := ?_) #[yY,yY,yY,yY,yY,yY,yY,yY,yY,yY,yY,yY,yY,yY,yY,yY,yY,nN,nN,nN,nN,nN,nN,nN,nN,nN,nN,nN,nN,nN,nN] rfl rfl (by kernel_rfl) (fun _ _ _ h => h) (Or.inr ⟨by rfl, rfl⟩) ?_ ?_
      rotate_left
      · simp only [Act.put, List.setIfInBounds_toArray, List.set_cons_zero, List.set_cons_succ, i64_w, i32_w]
        rfl
      refine pure_ (i := 17) (N := some 34) (v := ?_) (a' := ?_) #[yY,yY,yY,yY,yY,yY,yY,yY,yY,yY,yY,yY,yY,yY,yY,yY,yY,yY,nN,nN,nN,nN,nN,nN,nN,nN,nN,nN,nN,nN,nN] rfl rfl (by kernel_rfl) (fun _ _ _ h => h) (Or.inl ⟨by rfl, ?_⟩) ?_ ?_
      rotate_left
      · intro w'
        go_simp
        with_reducible rfl
      rotate_left
      · simp only [Act.put, List.setIfInBounds_toArray, List.set_cons_zero, List.set_cons_succ, i64_w, i32_w]
        rfl
      refine pure_ (i := 18) (N := some 35) (v := ?_) (a' := ?_) #[yY,yY,yY,yY,yY,yY,yY,yY,yY,yY,yY,yY,yY,yY,yY,yY,yY,yY,yY,nN,nN,nN,nN,nN,nN,nN,nN,nN,nN,nN,nN] rfl rfl (by kernel_rfl) (fun _ _ _ h => h) (Or.inl ⟨by rfl, ?_⟩) ?_ ?_
      rotate_left
      · intro w'
        go_simp
        with_reducible rfl
      rotate_left
      · simp only [Act.put, List.setIfInBounds_toArray, List.set_cons_zero, List.set_cons_succ, i64_w, i32_w]
        rfl
      refine pure_ (i := 19) (N := some 36) (v := undef) (a' := ?_) #[yY,yY,yY,yY,yY,yY,yY,yY,yY,yY,yY,yY,yY,yY,yY,yY,yY,yY,yY,yY,nN,nN,nN,nN,nN,nN,nN,nN,nN,nN,nN] rfl rfl (by kernel_rfl) (fun _ _ _ h => h) (Or.inr ⟨by rfl, rfl⟩) ?_ ?_
      rotate_left
      · simp only [Act.put, List.setIfInBounds_toArray, List.set_cons_zero, List.set_cons_succ, i64_w, i32_w]
        rfl
      refine pure_ (i := 20) (N := some 37) (v := undef) (a' := ?_) #[yY,yY,yY,yY,yY,yY,yY,yY,yY,yY,yY,yY,yY,yY,yY,yY,yY,yY,yY,yY,yY,nN,nN,nN,nN,nN,nN,nN,nN,nN,nN] rfl rfl (by kernel_rfl) (fun _ _ _ h => h) (Or.inr ⟨by rfl, rfl⟩) ?_ ?_
      rotate_left
      · simp only [Act.put, List.setIfInBounds_toArray, List.set_cons_zero, List.set_cons_succ, i64_w, i32_w]
        rfl
      refine pure_ (i := 21) (N := some 38) (v := undef) (a' := ?_) #[yY,yY,yY,yY,yY,yY,yY,yY,yY,yY,yY,yY,yY,yY,yY,yY,yY,yY,yY,yY,yY,yY,nN,nN,nN,nN,nN,nN,nN,nN,nN] rfl rfl (by kernel_rfl) (fun _ _ _ h => h) (Or.inr ⟨by rfl, rfl⟩) ?_ ?_
      rotate_left
      · simp only [Act.put, List.setIfInBounds_toArray, List.set_cons_zero, List.set_cons_succ, i64_w, i32_w]
        rfl
      refine pure_ (i := 22) (N := some 39) (v := ?_) (a' := ?_) #[yY,yY,yY,yY,yY,yY,yY,yY,yY,yY,yY,yY,yY,yY,yY,yY,yY,yY,yY,yY,yY,yY,yY,nN,nN,nN,nN,nN,nN,nN,nN] rfl rfl (by kernel_rfl) (fun _ _ _ h => h) (Or.inl ⟨by rfl, ?_⟩) ?_ ?_
      rotate_left
      · intro w'
        go_simp
        with_reducible rfl
      rotate_left
      · simp only [Act.put, List.setIfInBounds_toArray, List.set_cons_zero, List.set_cons_succ, i64_w, i32_w]
        rfl
      refine pure_ (i := 23) (N := some 40) (v := ?_) (a' := ?_) #[yY,yY,yY,yY,yY,yY,yY,yY,yY,yY,yY,yY,yY,yY,yY,yY,yY,yY,yY,yY,yY,yY,yY,yY,nN,nN,nN,nN,nN,nN,nN] rfl rfl (by kernel_rfl) (fun _ _ _ h => h) (Or.inl ⟨by rfl, ?_⟩) ?_ ?_
      rotate_left
      · intro w'
        go_simp
        with_reducible rfl
      rotate_left
      · simp only [Act.put, List.setIfInBounds_toArray, List.set_cons_zero, List.set_cons_succ, i64_w, i32_w]
        rfl
      refine pure_ (i := 24) (N := some 41) (v := undef) (a' := ?_) #[yY,yY,yY,yY,yY,yY,yY,yY,yY,yY,yY,yY,yY,yY,yY,yY,yY,yY,yY,yY,yY,yY,yY,yY,yY,nN,nN,nN,nN,nN,nN] rfl rfl (by kernel_rfl) (fun _ _ _ h => h) (Or.inr ⟨by rfl, rfl⟩) ?_ ?_
      rotate_left
      · simp only [Act.put, List.setIfInBounds_toArray, List.set_cons_zero, List.set_cons_succ, i64_w, i32_w]
        rfl
      refine pure_ (i := 25) (N := some 42) (v := undef) (a' := ?_) #[yY,yY,yY,yY,yY,yY,yY,yY,yY,yY,yY,yY,yY,yY,yY,yY,yY,yY,yY,yY,yY,yY,yY,yY,yY,yY,nN,nN,nN,nN,nN] rfl rfl (by kernel_rfl) (fun _ _ _ h => h) (Or.inr ⟨by rfl, rfl⟩) ?_ ?_
      rotate_left
      · simp only [Act.put, List.setIfInBounds_toArray, List.set_cons_zero, List.set_cons_succ, i64_w, i32_w]
        rfl
      refine pure_ (i := 26) (N := some 43) (v := undef) (a' := ?_) #[yY,yY,yY,yY,yY,yY,yY,yY,yY,yY,yY,yY,yY,yY,yY,yY,yY,yY,yY,yY,yY,yY,yY,yY,yY,yY,yY,nN,nN,nN,nN] rfl rfl (by kernel_rfl) (fun _ _ _ h => h) (Or.inr ⟨by rfl, rfl⟩) ?_ ?_
      rotate_left
      · simp only [Act.put, List.setIfInBounds_toArray, List.set_cons_zero, List.set_cons_succ, i64_w, i32_w]
        rfl
      refine pure_ (i := 27) (N := some 44) (v := undef) (a' := ?_) #[yY,yY,yY,yY,yY,yY,yY,yY,yY,yY,yY,yY,yY,yY,yY,yY,yY,yY,yY,yY,yY,yY,yY,yY,yY,yY,yY,yY,nN,nN,nN] rfl rfl (by kernel_rfl) (fun _ _ _ h => h) (Or.inr ⟨by rfl, rfl⟩) ?_ ?_
      rotate_left
      · simp only [Act.put, List.setIfInBounds_toArray, List.set_cons_zero, List.set_cons_succ, i64_w, i32_w]
        rfl
      refine pure_ (i := 28) (N := some 45) (v := ?_) (a' := ?_) #[yY,yY,yY,yY,yY,yY,yY,yY,yY,yY,yY,yY,yY,yY,yY,yY,yY,yY,yY,yY,yY,yY,yY,yY,yY,yY,yY,yY,yY,nN,nN] rfl rfl (by kernel_rfl) (fun _ _ _ h => h) (Or.inl ⟨by rfl, ?_⟩) ?_ ?_
      rotate_left
      · intro w'
        go_simp
        with_reducible rfl
      rotate_left
      · simp only [Act.put, List.setIfInBounds_toArray, List.set_cons_zero, List.set_cons_succ, i64_w, i32_w]
        rfl
      refine one_ (i := 29) (N := none) #[yY,yY,yY,yY,yY,yY,yY,yY,yY,yY,yY,yY,yY,yY,yY,yY,yY,yY,yY,yY,yY,yY,yY,yY,yY,yY,yY,yY,yY,yY,nN] rfl rfl (by kernel_rfl) (by decide) (fun K hK => ?_)
      have HBX := HBS
      have HLX := HLS
      have HRX := Lib.hid (blk_below HR0d.out HBX.out)
      have r0 := blk_cell HRX.out 0
      have r1 := blk_cell HRX.out 1
      have r2 := blk_cell HRX.out 2
      have r3 := blk_cell HRX.out 3
      have r4 := blk_cell HRX.out 4
      have rf0 := blk_frozen HRX.out 0
      have rf1 := blk_frozen HRX.out 1
      have rf2 := blk_frozen HRX.out 2
      have rf3 := blk_frozen HRX.out 3
      have rf4 := blk_frozen HRX.out 4
      refine skip_ (w1 := ?_) (by rfl) rfl ?_ ?_
      rotate_left
      · go_simp
        rfl
      refine hK.out _ _ ⟨blk_cell (far5 (blk_below HX0d.out HBX.out) (by omega) _ _ _ _ _) 1, blk_cell (far5 (blk_below HX0d.out HBX.out) (by omega) _ _ _ _ _) 2, blk_cell (far5 (blk_below HX0d.out HBX.out) (by omega) _ _ _ _ _) 3, blk_cell (far5 (blk_below HX0d.out HBX.out) (by omega) _ _ _ _ _) 4, blk_cell (far5 (blk_below HX0d.out HBX.out) (by omega) _ _ _ _ _) 5, HCV.out _ (below5 (HB1.out.trans (HBX.out.mono HB1.out.size)) (Nat.le_succ _) _ _ _ _ _)⟩ (fun hHeld => ?_)
      clear hK K
      refine pure_ (i := 30) (N := some 3) (v := ?_) (a' := ?_) #[yY,yY,yY,yY,yY,yY,yY,yY,yY,yY,yY,yY,yY,yY,yY,yY,yY,yY,yY,yY,yY,yY,yY,yY,yY,yY,yY,yY,yY,yY,yY] rfl rfl (by kernel_rfl) (fun _ _ _ h => h) (Or.inl ⟨by rfl, ?_⟩) ?_ ?_
      rotate_left
      · intro w'
        go_simp
        with_reducible rfl
      rotate_left
      · simp only [Act.put, List.setIfInBounds_toArray, List.set_cons_zero, List.set_cons_succ, i64_w, i32_w]
        rfl
      refine done_ (by kernel_rfl) ?_
      have HS0 : Hid (w.heap.size + 1 < W1.heap.size) := Lib.hid (blk_lt HR0d.out)
      try go_wp2
      try simp only [Exit.inBlock, Exit.then]
      exact bodyPost_ret (results_ct (p := 2) (u := 3) rfl _ _ _ _ _ _ _ rfl (set5 HRX.out (.int .i64 d.f0) (.int .i64 d.f1) (.bool d.f2) (.slice E3 d.f3.length q3) (.slice E4 d.f4.length q4)) Tryd.underlying33 rfl size33) rfl
        ⟨E3, q3, E4, q4, rfl, lies5 HLX.out HS0.out (by have := HS0.out; omega) _ _ _ _ _, below5 (HB1.out.trans (HBX.out.mono HB1.out.size)) (Nat.le_succ _) _ _ _ _ _⟩
    · skip
      refine pure_ (i := 14) (N := some 31) (v := ?_) (a' := ?_) #[yY,yY,yY,yY,yY,yY,yY,yY,yY,yY,yY,yY,yY,yY,yY,nN,nN,nN,nN,nN,nN,nN,nN,nN,nN,nN,nN,nN,nN,nN,nN] rfl rfl (by kernel_rfl) (fun _ _ _ h => h) (Or.inl ⟨by rfl, ?_⟩) ?_ ?_
      rotate_left
      · intro w'
        go_simp
        with_reducible rfl
      rotate_left
      · simp only [Act.put, List.setIfInBounds_toArray, List.set_cons_zero, List.set_cons_succ, i64_w, i32_w]
        rfl
      refine take_ (i := 15) (N := some 32) (v := ?_) (a' := ?_) #[yY,yY,yY,yY,yY,yY,yY,yY,yY,yY,yY,yY,yY,yY,yY,yY,nN,nN,nN,nN,nN,nN,nN,nN,nN,nN,nN,nN,nN,nN,nN] rfl rfl (by kernel_rfl) (fun _ _ _ h => h) (Or.inl ⟨by rfl, ?_⟩) hHeld ?_ ?_
      rotate_left
      · rintro w' ⟨s0, s1, s2, s3, s4, s5⟩
        go_simp
        with_reducible rfl
      rotate_left
      · simp only [Act.put, List.setIfInBounds_toArray, List.set_cons_zero, List.set_cons_succ, i64_w, i32_w]
        rfl
      refine one_ (i := 16) (N := some 33) #[yY,yY,yY,yY,yY,yY,yY,yY,yY,yY,yY,yY,yY,yY,yY,yY,yY,nN,nN,nN,nN,nN,nN,nN,nN,nN,nN,nN,nN,nN,nN] rfl rfl (by kernel_rfl) (by decide) (fun K hK => ?_)
      refine goes_ Tryd.func75 (by kernel_rfl) rfl #[.string o] (by rfl) rfl rfl (by simp only [List.map_toArray, List.map_cons, List.map_nil]; rfl) ?_
      with_reducible refine (HDO.out _).mono ?_
      rintro e WD ⟨rfl, hBD⟩
      refine ⟨_, rfl, ?_⟩
      have HBD := Lib.hid (HBS.out.trans (hBD.mono HBS.out.size))
      have HLD := Lib.hid (HLS.out.below hBD)
      clear hBD HBS HLS hHeld
      refine hK.out _ _ ⟨blk_cell (blk_below HX0d.out HBD.out) 1, blk_cell (blk_below HX0d.out HBD.out) 2, blk_cell (blk_below HX0d.out HBD.out) 3, blk_cell (blk_below HX0d.out HBD.out) 4, blk_cell (blk_below HX0d.out HBD.out) 5, HCV.out _ (HB1.out.trans ((HBD.out).mono HB1.out.size))⟩ (fun hHeld => ?_)
      clear hK K
      refine norm_ (a' := ?_) ?_ ?_
      rotate_left
      · show Act.put _ (some 33) _ = _
        simp only [Act.put, List.setIfInBounds_toArray, List.set_cons_zero, List.set_cons_succ, i64_w, i32_w]
        rfl
      refine pure_ (i := 17) (N := some 34) (v := ?_) (a' := ?_) #[yY,yY,yY,yY,yY,yY,yY,yY,yY,yY,yY,yY,yY,yY,yY,yY,yY,yY,nN,nN,nN,nN,nN,nN,nN,nN,nN,nN,nN,nN,nN] rfl rfl (by kernel_rfl) (fun _ _ _ h => h) (Or.inl ⟨by rfl, ?_⟩) ?_ ?_
      rotate_left
      · intro w'
        go_simp
        with_reducible rfl
      rotate_left
      · simp only [Act.put, List.setIfInBounds_toArray, List.set_cons_zero, List.set_cons_succ, i64_w, i32_w]
        rfl
      refine pure_ (i := 18) (N := some 35) (v := ?_) (a' := ?_) #[yY,yY,yY,yY,yY,yY,yY,yY,yY,yY,yY,yY,yY,yY,yY,yY,yY,yY,yY,nN,nN,nN,nN,nN,nN,nN,nN,nN,nN,nN,nN] rfl rfl (by kernel_rfl) (fun _ _ _ h => h) (Or.inl ⟨by rfl, ?_⟩) ?_ ?_
      rotate_left
      · intro w'
        go_simp
        with_reducible rfl
      rotate_left
      · simp only [Act.put, List.setIfInBounds_toArray, List.set_cons_zero, List.set_cons_succ, i64_w, i32_w]
        rfl
      cases dot
      · skip
        refine pure_ (i := 19) (N := some 36) (v := undef) (a' := ?_) #[yY,yY,yY,yY,yY,yY,yY,yY,yY,yY,yY,yY,yY,yY,yY,yY,yY,yY,yY,yY,nN,nN,nN,nN,nN,nN,nN,nN,nN,nN,nN] rfl rfl (by kernel_rfl) (fun _ _ _ h => h) (Or.inr ⟨by rfl, rfl⟩) ?_ ?_
        rotate_left
        · simp only [Act.put, List.setIfInBounds_toArray, List.set_cons_zero, List.set_cons_succ, i64_w, i32_w]
          rfl
        refine pure_ (i := 20) (N := some 37) (v := undef) (a' := ?_) #[yY,yY,yY,yY,yY,yY,yY,yY,yY,yY,yY,yY,yY,yY,yY,yY,yY,yY,yY,yY,yY,nN,nN,nN,nN,nN,nN,nN,nN,nN,nN] rfl rfl (by kernel_rfl) (fun _ _ _ h => h) (Or.inr ⟨by rfl, rfl⟩) ?_ ?_
        rotate_left
        · simp only [Act.put, List.setIfInBounds_toArray, List.set_cons_zero, List.set_cons_succ, i64_w, i32_w]
          rfl
        refine pure_ (i := 21) (N := some 38) (v := undef) (a' := ?_) #[yY,yY,yY,yY,yY,yY,yY,yY,yY,yY,yY,yY,yY,yY,yY,yY,yY,yY,yY,yY,yY,yY,nN,nN,nN,nN,nN,nN,nN,nN,nN] rfl rfl (by kernel_rfl) (fun _ _ _ h => h) (Or.inr ⟨by rfl, rfl⟩) ?_ ?_
        rotate_left
        · simp only [Act.put, List.setIfInBounds_toArray, List.set_cons_zero, List.set_cons_succ, i64_w, i32_w]
          rfl
        refine pure_ (i := 22) (N := some 39) (v := ?_) (a' := ?_) #[yY,yY,yY,yY,yY,yY,yY,yY,yY,yY,yY,yY,yY,yY,yY,yY,yY,yY,yY,yY,yY,yY,yY,nN,nN,nN,nN,nN,nN,nN,nN] rfl rfl (by kernel_rfl) (fun _ _ _ h => h) (Or.inl ⟨by rfl, ?_⟩) ?_ ?_
        rotate_left
        · intro w'
          go_simp
          with_reducible rfl
        rotate_left
        · simp only [Act.put, List.setIfInBounds_toArray, List.set_cons_zero, List.set_cons_succ, i64_w, i32_w]
          rfl
        refine pure_ (i := 23) (N := some 40) (v := ?_) (a' := ?_) #[yY,yY,yY,yY,yY,yY,yY,yY,yY,yY,yY,yY,yY,yY,yY,yY,yY,yY,yY,yY,yY,yY,yY,yY,nN,nN,nN,nN,nN,nN,nN] rfl rfl (by kernel_rfl) (fun _ _ _ h => h) (Or.inl ⟨by rfl, ?_⟩) ?_ ?_
        rotate_left
        · intro w'
          go_simp
          with_reducible rfl
        rotate_left
        · simp only [Act.put, List.setIfInBounds_toArray, List.set_cons_zero, List.set_cons_succ, i64_w, i32_w]
          rfl
        refine pure_ (i := 24) (N := some 41) (v := undef) (a' := ?_) #[yY,yY,yY,yY,yY,yY,yY,yY,yY,yY,yY,yY,yY,yY,yY,yY,yY,yY,yY,yY,yY,yY,yY,yY,yY,nN,nN,nN,nN,nN,nN] rfl rfl (by kernel_rfl) (fun _ _ _ h => h) (Or.inr ⟨by rfl, rfl⟩) ?_ ?_
        rotate_left
        · simp only [Act.put, List.setIfInBounds_toArray, List.set_cons_zero, List.set_cons_succ, i64_w, i32_w]
          rfl
        refine pure_ (i := 25) (N := some 42) (v := undef) (a' := ?_) #[yY,yY,yY,yY,yY,yY,yY,yY,yY,yY,yY,yY,yY,yY,yY,yY,yY,yY,yY,yY,yY,yY,yY,yY,yY,yY,nN,nN,nN,nN,nN] rfl rfl (by kernel_rfl) (fun _ _ _ h => h) (Or.inr ⟨by rfl, rfl⟩) ?_ ?_
        rotate_left
        · simp only [Act.put, List.setIfInBounds_toArray, List.set_cons_zero, List.set_cons_succ, i64_w, i32_w]
          rfl
        refine pure_ (i := 26) (N := some 43) (v := undef) (a' := ?_) #[yY,yY,yY,yY,yY,yY,yY,yY,yY,yY,yY,yY,yY,yY,yY,yY,yY,yY,yY,yY,yY,yY,yY,yY,yY,yY,yY,nN,nN,nN,nN] rfl rfl (by kernel_rfl) (fun _ _ _ h => h) (Or.inr ⟨by rfl, rfl⟩) ?_ ?_
        rotate_left
        · simp only [Act.put, List.setIfInBounds_toArray, List.set_cons_zero, List.set_cons_succ, i64_w, i32_w]
          rfl
        refine pure_ (i := 27) (N := some 44) (v := undef) (a' := ?_) #[yY,yY,yY,yY,yY,yY,yY,yY,yY,yY,yY,yY,yY,yY,yY,yY,yY,yY,yY,yY,yY,yY,yY,yY,yY,yY,yY,yY,nN,nN,nN] rfl rfl (by kernel_rfl) (fun _ _ _ h => h) (Or.inr ⟨by rfl, rfl⟩) ?_ ?_
        rotate_left
        · simp only [Act.put, List.setIfInBounds_toArray, List.set_cons_zero, List.set_cons_succ, i64_w, i32_w]
          rfl
        refine pure_ (i := 28) (N := some 45) (v := ?_) (a' := ?_) #[yY,yY,yY,yY,yY,yY,yY,yY,yY,yY,yY,yY,yY,yY,yY,yY,yY,yY,yY,yY,yY,yY,yY,yY,yY,yY,yY,yY,yY,nN,nN] rfl rfl (by kernel_rfl) (fun _ _ _ h => h) (Or.inl ⟨by rfl, ?_⟩) ?_ ?_
        rotate_left
        · intro w'
          go_simp
          with_reducible rfl
        rotate_left
        · simp only [Act.put, List.setIfInBounds_toArray, List.set_cons_zero, List.set_cons_succ, i64_w, i32_w]
          rfl
        refine one_ (i := 29) (N := none) #[yY,yY,yY,yY,yY,yY,yY,yY,yY,yY,yY,yY,yY,yY,yY,yY,yY,yY,yY,yY,yY,yY,yY,yY,yY,yY,yY,yY,yY,yY,nN] rfl rfl (by kernel_rfl) (by decide) (fun K hK => ?_)
        have HBX := HBD
        have HLX := HLD
        have HRX := Lib.hid (blk_below HR0d.out HBX.out)
        have r0 := blk_cell HRX.out 0
        have r1 := blk_cell HRX.out 1
        have r2 := blk_cell HRX.out 2
        have r3 := blk_cell HRX.out 3
        have r4 := blk_cell HRX.out 4
        have rf0 := blk_frozen HRX.out 0
        have rf1 := blk_frozen HRX.out 1
        have rf2 := blk_frozen HRX.out 2
        have rf3 := blk_frozen HRX.out 3
        have rf4 := blk_frozen HRX.out 4
        refine skip_ (w1 := ?_) (by rfl) rfl ?_ ?_
        rotate_left
        · go_simp
          rfl
        refine hK.out _ _ ⟨blk_cell (far5 (blk_below HX0d.out HBX.out) (by omega) _ _ _ _ _) 1, blk_cell (far5 (blk_below HX0d.out HBX.out) (by omega) _ _ _ _ _) 2, blk_cell (far5 (blk_below HX0d.out HBX.out) (by omega) _ _ _ _ _) 3, blk_cell (far5 (blk_below HX0d.out HBX.out) (by omega) _ _ _ _ _) 4, blk_cell (far5 (blk_below HX0d.out HBX.out) (by omega) _ _ _ _ _) 5, HCV.out _ (below5 (HB1.out.trans (HBX.out.mono HB1.out.size)) (Nat.le_succ _) _ _ _ _ _)⟩ (fun hHeld => ?_)
        clear hK K
        refine pure_ (i := 30) (N := some 3) (v := ?_) (a' := ?_) #[yY,yY,yY,yY,yY,yY,yY,yY,yY,yY,yY,yY,yY,yY,yY,yY,yY,yY,yY,yY,yY,yY,yY,yY,yY,yY,yY,yY,yY,yY,yY] rfl rfl (by kernel_rfl) (fun _ _ _ h => h) (Or.inl ⟨by rfl, ?_⟩) ?_ ?_
        rotate_left
        · intro w'
          go_simp
          with_reducible rfl
        rotate_left
        · simp only [Act.put, List.setIfInBounds_toArray, List.set_cons_zero, List.set_cons_succ, i64_w, i32_w]
          rfl
        refine done_ (by kernel_rfl) ?_
        have HS0 : Hid (w.heap.size + 1 < W1.heap.size) := Lib.hid (blk_lt HR0d.out)
        try go_wp2
        try simp only [Exit.inBlock, Exit.then]
        exact bodyPost_ret (results_ct (p := 2) (u := 3) rfl _ _ _ _ _ _ _ rfl (set5 HRX.out (.int .i64 d.f0) (.int .i64 d.f1) (.bool d.f2) (.slice E3 d.f3.length q3) (.slice E4 d.f4.length q4)) Tryd.underlying33 rfl size33) rfl
          ⟨E3, q3, E4, q4, rfl, lies5 HLX.out HS0.out (by have := HS0.out; omega) _ _ _ _ _, below5 (HB1.out.trans (HBX.out.mono HB1.out.size)) (Nat.le_succ _) _ _ _ _ _⟩
      · skip
        refine pure_ (i := 19) (N := some 36) (v := ?_) (a' := ?_) #[yY,yY,yY,yY,yY,yY,yY,yY,yY,yY,yY,yY,yY,yY,yY,yY,yY,yY,yY,yY,nN,nN,nN,nN,nN,nN,nN,nN,nN,nN,nN] rfl rfl (by kernel_rfl) (fun _ _ _ h => h) (Or.inl ⟨by rfl, ?_⟩) ?_ ?_
        rotate_left
        · intro w'
          go_simp
          with_reducible rfl
        rotate_left
        · simp only [Act.put, List.setIfInBounds_toArray, List.set_cons_zero, List.set_cons_succ, i64_w, i32_w]
          rfl
        refine take_ (i := 20) (N := some 37) (v := ?_) (a' := ?_) #[yY,yY,yY,yY,yY,yY,yY,yY,yY,yY,yY,yY,yY,yY,yY,yY,yY,yY,yY,yY,yY,nN,nN,nN,nN,nN,nN,nN,nN,nN,nN] rfl rfl (by kernel_rfl) (fun _ _ _ h => h) (Or.inl ⟨by rfl, ?_⟩) hHeld ?_ ?_
        rotate_left
        · rintro w' ⟨s0, s1, s2, s3, s4, s5⟩
          go_simp
          with_reducible rfl
        rotate_left
        · simp only [Act.put, List.setIfInBounds_toArray, List.set_cons_zero, List.set_cons_succ, i64_w, i32_w]
          rfl
        refine pure_ (i := 21) (N := some 38) (v := ?_) (a' := ?_) #[yY,yY,yY,yY,yY,yY,yY,yY,yY,yY,yY,yY,yY,yY,yY,yY,yY,yY,yY,yY,yY,yY,nN,nN,nN,nN,nN,nN,nN,nN,nN] rfl rfl (by kernel_rfl) (fun _ _ _ h => h) (Or.inl ⟨by rfl, ?_⟩) ?_ ?_
        rotate_left
        · intro w'
          go_simp
          with_reducible rfl
        rotate_left
        · simp only [Act.put, List.setIfInBounds_toArray, List.set_cons_zero, List.set_cons_succ, i64_w, i32_w]
          rfl
        refine pure_ (i := 22) (N := some 39) (v := ?_) (a' := ?_) #[yY,yY,yY,yY,yY,yY,yY,yY,yY,yY,yY,yY,yY,yY,yY,yY,yY,yY,yY,yY,yY,yY,yY,nN,nN,nN,nN,nN,nN,nN,nN] rfl rfl (by kernel_rfl) (fun _ _ _ h => h) (Or.inl ⟨by rfl, ?_⟩) ?_ ?_
        rotate_left
        · intro w'
          go_simp
          with_reducible rfl
        rotate_left
        · simp only [Act.put, List.setIfInBounds_toArray, List.set_cons_zero, List.set_cons_succ, i64_w, i32_w]
          rfl
        refine pure_ (i := 23) (N := some 40) (v := ?_) (a' := ?_) #[yY,yY,yY,yY,yY,yY,yY,yY,yY,yY,yY,yY,yY,yY,yY,yY,yY,yY,yY,yY,yY,yY,yY,yY,nN,nN,nN,nN,nN,nN,nN] rfl rfl (by kernel_rfl) (fun _ _ _ h => h) (Or.inl ⟨by rfl, ?_⟩) ?_ ?_
        rotate_left
        · intro w'
          go_simp
          with_reducible rfl
        rotate_left
        · simp only [Act.put, List.setIfInBounds_toArray, List.set_cons_zero, List.set_cons_succ, i64_w, i32_w]
          rfl
        cases h4 : (n == 0)
        · skip
          refine pure_ (i := 24) (N := some 41) (v := undef) (a' := ?_) #[yY,yY,yY,yY,yY,yY,yY,yY,yY,yY,yY,yY,yY,yY,yY,yY,yY,yY,yY,yY,yY,yY,yY,yY,yY,nN,nN,nN,nN,nN,nN] rfl rfl (by kernel_rfl) (fun _ _ _ h => h) (Or.inr ⟨by rfl, rfl⟩) ?_ ?_
          rotate_left
          · simp only [Act.put, List.setIfInBounds_toArray, List.set_cons_zero, List.set_cons_succ, i64_w, i32_w]
            rfl
          refine pure_ (i := 25) (N := some 42) (v := undef) (a' := ?_) #[yY,yY,yY,yY,yY,yY,yY,yY,yY,yY,yY,yY,yY,yY,yY,yY,yY,yY,yY,yY,yY,yY,yY,yY,yY,yY,nN,nN,nN,nN,nN] rfl rfl (by kernel_rfl) (fun _ _ _ h => h) (Or.inr ⟨by rfl, rfl⟩) ?_ ?_
          rotate_left
          · simp only [Act.put, List.setIfInBounds_toArray, List.set_cons_zero, List.set_cons_succ, i64_w, i32_w]
            rfl
          refine pure_ (i := 26) (N := some 43) (v := undef) (a' := ?_) #[yY,yY,yY,yY,yY,yY,yY,yY,yY,yY,yY,yY,yY,yY,yY,yY,yY,yY,yY,yY,yY,yY,yY,yY,yY,yY,yY,nN,nN,nN,nN] rfl rfl (by kernel_rfl) (fun _ _ _ h => h) (Or.inr ⟨by rfl, rfl⟩) ?_ ?_
          rotate_left
          · simp only [Act.put, List.setIfInBounds_toArray, List.set_cons_zero, List.set_cons_succ, i64_w, i32_w]
            rfl
          refine pure_ (i := 27) (N := some 44) (v := undef) (a' := ?_) #[yY,yY,yY,yY,yY,yY,yY,yY,yY,yY,yY,yY,yY,yY,yY,yY,yY,yY,yY,yY,yY,yY,yY,yY,yY,yY,yY,yY,nN,nN,nN] rfl rfl (by kernel_rfl) (fun _ _ _ h => h) (Or.inr ⟨by rfl, rfl⟩) ?_ ?_
          rotate_left
          · simp only [Act.put, List.setIfInBounds_toArray, List.set_cons_zero, List.set_cons_succ, i64_w, i32_w]
            rfl
          refine pure_ (i := 28) (N := some 45) (v := ?_) (a' := ?_) #[yY,yY,yY,yY,yY,yY,yY,yY,yY,yY,yY,yY,yY,yY,yY,yY,yY,yY,yY,yY,yY,yY,yY,yY,yY,yY,yY,yY,yY,nN,nN] rfl rfl (by kernel_rfl) (fun _ _ _ h => h) (Or.inl ⟨by rfl, ?_⟩) ?_ ?_
          rotate_left
          · intro w'
            go_simp
            with_reducible rfl
          rotate_left
          · simp only [Act.put, List.setIfInBounds_toArray, List.set_cons_zero, List.set_cons_succ, i64_w, i32_w]
            rfl
          refine one_ (i := 29) (N := none) #[yY,yY,yY,yY,yY,yY,yY,yY,yY,yY,yY,yY,yY,yY,yY,yY,yY,yY,yY,yY,yY,yY,yY,yY,yY,yY,yY,yY,yY,yY,nN] rfl rfl (by kernel_rfl) (by decide) (fun K hK => ?_)
          have HBX := HBD
          have HLX := HLD
          have HRX := Lib.hid (blk_below HR0d.out HBX.out)
          have r0 := blk_cell HRX.out 0
          have r1 := blk_cell HRX.out 1
          have r2 := blk_cell HRX.out 2
          have r3 := blk_cell HRX.out 3
          have r4 := blk_cell HRX.out 4
          have rf0 := blk_frozen HRX.out 0
          have rf1 := blk_frozen HRX.out 1
          have rf2 := blk_frozen HRX.out 2
          have rf3 := blk_frozen HRX.out 3
          have rf4 := blk_frozen HRX.out 4
          refine skip_ (w1 := ?_) (by rfl) rfl ?_ ?_
          rotate_left
          · go_simp
            rfl
          refine hK.out _ _ ⟨blk_cell (far5 (blk_below HX0d.out HBX.out) (by omega) _ _ _ _ _) 1, blk_cell (far5 (blk_below HX0d.out HBX.out) (by omega) _ _ _ _ _) 2, blk_cell (far5 (blk_below HX0d.out HBX.out) (by omega) _ _ _ _ _) 3, blk_cell (far5 (blk_below HX0d.out HBX.out) (by omega) _ _ _ _ _) 4, blk_cell (far5 (blk_below HX0d.out HBX.out) (by omega) _ _ _ _ _) 5, HCV.out _ (below5 (HB1.out.trans (HBX.out.mono HB1.out.size)) (Nat.le_succ _) _ _ _ _ _)⟩ (fun hHeld => ?_)
          clear hK K
          refine pure_ (i := 30) (N := some 3) (v := ?_) (a' := ?_) #[yY,yY,yY,yY,yY,yY,yY,yY,yY,yY,yY,yY,yY,yY,yY,yY,yY,yY,yY,yY,yY,yY,yY,yY,yY,yY,yY,yY,yY,yY,yY] rfl rfl (by kernel_rfl) (fun _ _ _ h => h) (Or.inl ⟨by rfl, ?_⟩) ?_ ?_
          rotate_left
          · intro w'
            go_simp
            with_reducible rfl
          rotate_left
          · simp only [Act.put, List.setIfInBounds_toArray, List.set_cons_zero, List.set_cons_succ, i64_w, i32_w]
            rfl
          refine done_ (by kernel_rfl) ?_
          have HS0 : Hid (w.heap.size + 1 < W1.heap.size) := Lib.hid (blk_lt HR0d.out)
          try go_wp2
          try simp only [Exit.inBlock, Exit.then]
          exact bodyPost_ret (results_ct (p := 2) (u := 3) rfl _ _ _ _ _ _ _ rfl (set5 HRX.out (.int .i64 d.f0) (.int .i64 d.f1) (.bool d.f2) (.slice E3 d.f3.length q3) (.slice E4 d.f4.length q4)) Tryd.underlying33 rfl size33) rfl
            ⟨E3, q3, E4, q4, rfl, lies5 HLX.out HS0.out (by have := HS0.out; omega) _ _ _ _ _, below5 (HB1.out.trans (HBX.out.mono HB1.out.size)) (Nat.le_succ _) _ _ _ _ _⟩
        · skip
          refine pure_ (i := 24) (N := some 41) (v := ?_) (a' := ?_) #[yY,yY,yY,yY,yY,yY,yY,yY,yY,yY,yY,yY,yY,yY,yY,yY,yY,yY,yY,yY,yY,yY,yY,yY,yY,nN,nN,nN,nN,nN,nN] rfl rfl (by kernel_rfl) (fun _ _ _ h => h) (Or.inl ⟨by rfl, ?_⟩) ?_ ?_
          rotate_left
          · intro w'
            go_simp
            with_reducible rfl
          rotate_left
          · simp only [Act.put, List.setIfInBounds_toArray, List.set_cons_zero, List.set_cons_succ, i64_w, i32_w]
            rfl
          refine take_ (i := 25) (N := some 42) (v := ?_) (a' := ?_) #[yY,yY,yY,yY,yY,yY,yY,yY,yY,yY,yY,yY,yY,yY,yY,yY,yY,yY,yY,yY,yY,yY,yY,yY,yY,yY,nN,nN,nN,nN,nN] rfl rfl (by kernel_rfl) (fun _ _ _ h => h) (Or.inl ⟨by rfl, ?_⟩) hHeld ?_ ?_
          rotate_left
          · rintro w' ⟨s0, s1, s2, s3, s4, s5⟩
            go_simp
            with_reducible rfl
          rotate_left
          · simp only [Act.put, List.setIfInBounds_toArray, List.set_cons_zero, List.set_cons_succ, i64_w, i32_w]
            rfl
          refine pure_ (i := 26) (N := some 43) (v := ?_) (a' := ?_) #[yY,yY,yY,yY,yY,yY,yY,yY,yY,yY,yY,yY,yY,yY,yY,yY,yY,yY,yY,yY,yY,yY,yY,yY,yY,yY,yY,nN,nN,nN,nN] rfl rfl (by kernel_rfl) (fun _ _ _ h => h) (Or.inl ⟨by rfl, ?_⟩) ?_ ?_
          rotate_left
          · intro w'
            go_simp
            with_reducible rfl
          rotate_left
          · simp only [Act.put, List.setIfInBounds_toArray, List.set_cons_zero, List.set_cons_succ, i64_w, i32_w]
            rfl
          cases h5 : ((ck.length : Int) == 0)
          · skip
            refine pure_ (i := 27) (N := some 44) (v := ?_) (a' := ?_) #[yY,yY,yY,yY,yY,yY,yY,yY,yY,yY,yY,yY,yY,yY,yY,yY,yY,yY,yY,yY,yY,yY,yY,yY,yY,yY,yY,yY,nN,nN,nN] rfl rfl (by kernel_rfl) (fun _ _ _ h => h) (Or.inl ⟨by rfl, ?_⟩) ?_ ?_
            rotate_left
            · intro w'
              go_simp
              with_reducible rfl
            rotate_left
            · simp only [Act.put, List.setIfInBounds_toArray, List.set_cons_zero, List.set_cons_succ, i64_w, i32_w]
              rfl
            refine pure_ (i := 28) (N := some 45) (v := ?_) (a' := ?_) #[yY,yY,yY,yY,yY,yY,yY,yY,yY,yY,yY,yY,yY,yY,yY,yY,yY,yY,yY,yY,yY,yY,yY,yY,yY,yY,yY,yY,yY,nN,nN] rfl rfl (by kernel_rfl) (fun _ _ _ h => h) (Or.inl ⟨by rfl, ?_⟩) ?_ ?_
            rotate_left
            · intro w'
              go_simp
              with_reducible rfl
            rotate_left
            · simp only [Act.put, List.setIfInBounds_toArray, List.set_cons_zero, List.set_cons_succ, i64_w, i32_w]
              rfl
            refine one_ (i := 29) (N := none) #[yY,yY,yY,yY,yY,yY,yY,yY,yY,yY,yY,yY,yY,yY,yY,yY,yY,yY,yY,yY,yY,yY,yY,yY,yY,yY,yY,yY,yY,yY,nN] rfl rfl (by kernel_rfl) (by decide) (fun K hK => ?_)
            have HBX := HBD
            have HLX := HLD
            have HRX := Lib.hid (blk_below HR0d.out HBX.out)
            have r0 := blk_cell HRX.out 0
            have r1 := blk_cell HRX.out 1
            have r2 := blk_cell HRX.out 2
            have r3 := blk_cell HRX.out 3
            have r4 := blk_cell HRX.out 4
            have rf0 := blk_frozen HRX.out 0
            have rf1 := blk_frozen HRX.out 1
            have rf2 := blk_frozen HRX.out 2
            have rf3 := blk_frozen HRX.out 3
            have rf4 := blk_frozen HRX.out 4
            refine skip_ (w1 := ?_) (by rfl) rfl ?_ ?_
            rotate_left
            · go_simp
              rfl
            refine hK.out _ _ ⟨blk_cell (far5 (blk_below HX0d.out HBX.out) (by omega) _ _ _ _ _) 1, blk_cell (far5 (blk_below HX0d.out HBX.out) (by omega) _ _ _ _ _) 2, blk_cell (far5 (blk_below HX0d.out HBX.out) (by omega) _ _ _ _ _) 3, blk_cell (far5 (blk_below HX0d.out HBX.out) (by omega) _ _ _ _ _) 4, blk_cell (far5 (blk_below HX0d.out HBX.out) (by omega) _ _ _ _ _) 5, HCV.out _ (below5 (HB1.out.trans (HBX.out.mono HB1.out.size)) (Nat.le_succ _) _ _ _ _ _)⟩ (fun hHeld => ?_)
            clear hK K
            refine pure_ (i := 30) (N := some 3) (v := ?_) (a' := ?_) #[yY,yY,yY,yY,yY,yY,yY,yY,yY,yY,yY,yY,yY,yY,yY,yY,yY,yY,yY,yY,yY,yY,yY,yY,yY,yY,yY,yY,yY,yY,yY] rfl rfl (by kernel_rfl) (fun _ _ _ h => h) (Or.inl ⟨by rfl, ?_⟩) ?_ ?_
            rotate_left
            · intro w'
              go_simp
              with_reducible rfl
            rotate_left
            · simp only [Act.put, List.setIfInBounds_toArray, List.set_cons_zero, List.set_cons_succ, i64_w, i32_w]
              rfl
            refine done_ (by kernel_rfl) ?_
            have HS0 : Hid (w.heap.size + 1 < W1.heap.size) := Lib.hid (blk_lt HR0d.out)
            try go_wp2
            try simp only [Exit.inBlock, Exit.then]
            exact bodyPost_ret (results_ct (p := 2) (u := 3) rfl _ _ _ _ _ _ _ rfl (set5 HRX.out (.int .i64 d.f0) (.int .i64 d.f1) (.bool d.f2) (.slice E3 d.f3.length q3) (.slice E4 d.f4.length q4)) Tryd.underlying33 rfl size33) rfl
              ⟨E3, q3, E4, q4, rfl, lies5 HLX.out HS0.out (by have := HS0.out; omega) _ _ _ _ _, below5 (HB1.out.trans (HBX.out.mono HB1.out.size)) (Nat.le_succ _) _ _ _ _ _⟩
          · skip
            refine pure_ (i := 27) (N := some 44) (v := ?_) (a' := ?_) #[yY,yY,yY,yY,yY,yY,yY,yY,yY,yY,yY,yY,yY,yY,yY,yY,yY,yY,yY,yY,yY,yY,yY,yY,yY,yY,yY,yY,nN,nN,nN] rfl rfl (by kernel_rfl) (fun _ _ _ h => h) (Or.inl ⟨by rfl, ?_⟩) ?_ ?_
            rotate_left
            · intro w'
              go_simp
              with_reducible rfl
            rotate_left
            · simp only [Act.put, List.setIfInBounds_toArray, List.set_cons_zero, List.set_cons_succ, i64_w, i32_w]
              rfl
            refine pure_ (i := 28) (N := some 45) (v := ?_) (a' := ?_) #[yY,yY,yY,yY,yY,yY,yY,yY,yY,yY,yY,yY,yY,yY,yY,yY,yY,yY,yY,yY,yY,yY,yY,yY,yY,yY,yY,yY,yY,nN,nN] rfl rfl (by kernel_rfl) (fun _ _ _ h => h) (Or.inl ⟨by rfl, ?_⟩) ?_ ?_
            rotate_left
            · intro w'
              go_simp
              with_reducible rfl
            rotate_left
            · simp only [Act.put, List.setIfInBounds_toArray, List.set_cons_zero, List.set_cons_succ, i64_w, i32_w]
              rfl
            refine one_ (i := 29) (N := none) #[yY,yY,yY,yY,yY,yY,yY,yY,yY,yY,yY,yY,yY,yY,yY,yY,yY,yY,yY,yY,yY,yY,yY,yY,yY,yY,yY,yY,yY,yY,nN] rfl rfl (by kernel_rfl) (by decide) (fun K hK => ?_)
            have HBX := HBD
            have HLX := HLD
            have HRX := Lib.hid (blk_below HR0d.out HBX.out)
            have r0 := blk_cell HRX.out 0
            have r1 := blk_cell HRX.out 1
            have r2 := blk_cell HRX.out 2
            have r3 := blk_cell HRX.out 3
            have r4 := blk_cell HRX.out 4
            have rf0 := blk_frozen HRX.out 0
            have rf1 := blk_frozen HRX.out 1
            have rf2 := blk_frozen HRX.out 2
            have rf3 := blk_frozen HRX.out 3
            have rf4 := blk_frozen HRX.out 4
            refine skip_ (w1 := ?_) (by rfl) rfl ?_ ?_
            rotate_left
            · go_simp
              rfl
            refine hK.out _ _ ⟨blk_cell (far5 (blk_below HX0d.out HBX.out) (by omega) _ _ _ _ _) 1, blk_cell (far5 (blk_below HX0d.out HBX.out) (by omega) _ _ _ _ _) 2, blk_cell (far5 (blk_below HX0d.out HBX.out) (by omega) _ _ _ _ _) 3, blk_cell (far5 (blk_below HX0d.out HBX.out) (by omega) _ _ _ _ _) 4, blk_cell (far5 (blk_below HX0d.out HBX.out) (by omega) _ _ _ _ _) 5, HCV.out _ (below5 (HB1.out.trans (HBX.out.mono HB1.out.size)) (Nat.le_succ _) _ _ _ _ _)⟩ (fun hHeld => ?_)
            clear hK K
            refine pure_ (i := 30) (N := some 3) (v := ?_) (a' := ?_) #[yY,yY,yY,yY,yY,yY,yY,yY,yY,yY,yY,yY,yY,yY,yY,yY,yY,yY,yY,yY,yY,yY,yY,yY,yY,yY,yY,yY,yY,yY,yY] rfl rfl (by kernel_rfl) (fun _ _ _ h => h) (Or.inl ⟨by rfl, ?_⟩) ?_ ?_
            rotate_left
            · intro w'
              go_simp
              with_reducible rfl
            rotate_left
            · simp only [Act.put, List.setIfInBounds_toArray, List.set_cons_zero, List.set_cons_succ, i64_w, i32_w]
              rfl
            refine done_ (by kernel_rfl) ?_
            have HS0 : Hid (w.heap.size + 1 < W1.heap.size) := Lib.hid (blk_lt HR0d.out)
            try go_wp2
            try simp only [Exit.inBlock, Exit.then]
            exact bodyPost_ret (results_ct (p := 2) (u := 3) rfl _ _ _ _ _ _ _ rfl (set5 HRX.out (.int .i64 d.f0) (.int .i64 d.f1) (.bool d.f2) (.slice E3 d.f3.length q3) (.slice E4 d.f4.length q4)) Tryd.underlying33 rfl size33) rfl
              ⟨E3, q3, E4, q4, rfl, lies5 HLX.out HS0.out (by have := HS0.out; omega) _ _ _ _ _, below5 (HB1.out.trans (HBX.out.mono HB1.out.size)) (Nat.le_succ _) _ _ _ _ _⟩
end Go.Proofs.YtbmcpjkhnhbjdaaDoor.Ber
