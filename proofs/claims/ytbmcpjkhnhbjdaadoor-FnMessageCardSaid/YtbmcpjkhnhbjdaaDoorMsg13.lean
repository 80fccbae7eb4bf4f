/- Parts of the proof of one law, in the order in which they build. laws.control at the control of paged results. -/
import Derived.Test.YtbmcpjkhnhbjdaaDoorMsg1
import Derived.Test.YtbmcpjkhnhbjdaaDoorMsg2
import Derived.Test.YtbmcpjkhnhbjdaaDoorMsg3
import Derived.Test.YtbmcpjkhnhbjdaaDoorMsg4
import Derived.Test.YtbmcpjkhnhbjdaaDoorMsg5
import Derived.Test.YtbmcpjkhnhbjdaaDoorMsg6
import Derived.Test.YtbmcpjkhnhbjdaaDoorMsg7
import Derived.Test.YtbmcpjkhnhbjdaaDoorMsg8
import Derived.Test.YtbmcpjkhnhbjdaaDoorMsg9
import Derived.Test.YtbmcpjkhnhbjdaaDoorMsg10
import Derived.Test.YtbmcpjkhnhbjdaaDoorMsg11
namespace Go.Proofs.YtbmcpjkhnhbjdaaDoor.Ber
open Go.RowKit Go.Proofs.YtbmcpjkhnhbjdaaDoorW.PrintWords Go.Proofs.YtbmcpjkhnhbjdaaDoor.PFnEncode Go.Proofs.YtbmcpjkhnhbjdaaDoorW.PrintLast Go.Proofs.YtbmcpjkhnhbjdaaDoor.Tree Go.Proofs.YtbmcpjkhnhbjdaaDoor.Buf Go.Proofs.YtbmcpjkhnhbjdaaDoor.Pk Go.Proofs.YtbmcpjkhnhbjdaaDoor.Within Go.Proofs.YtbmcpjkhnhbjdaaDoor.Num
set_option linter.unusedVariables false
set_option linter.unusedSimpArgs false
set_option maxHeartbeats 3200000 in
set_option maxRecDepth 100000 in
theorem lctl1_any (o : ByteArray) (b : Bool) (v : List Int) (n : Int) (ck : List Int) (A3 : Option Addr) (c3 : Nat) (A5 : Option Addr) (c5 : Nat) (w : World) (hn : -9223372036854775808 ≤ n ∧ n ≤ 9223372036854775807) (hC : (Kd.int .u8).C w A5 ck.length ck) (hv : ck.length ≤ 2147483647) :
    Calls Tryd.prog 39 #[.agg #[.int .i64 1, .string o, .bool b, .slice A3 v.length c3, .int .i64 n, .slice A5 ck.length c5]] w (LC w (sCtl ⟨#[49, 46, 50, 46, 56, 52, 48, 46, 49, 49, 51, 53, 53, 54, 46, 49, 46, 52, 46, 51, 49, 57]⟩ false [pagV n (strOfNums ck)]) (shortT [strOfNums ck] && decide (0 ≤ n) && decide (n < 2147483648) && (!b) && ((v.length : Int) == 0))) := by
  have HCV : Hid (∀ W, Below w.heap.size w W → (convert 24 9 (.slice A5 ck.length c5)).run Tryd.prog W = .ok (.string (strOfNums ck)) W) := Lib.hid (fun W hb => Kd.C_string Tryd.underlying24 Tryd.underlying5 Tryd.underlying9 (Kd.C_below hC hb))
  have hlen : (strOfNums ck).size = ck.length := by simp [strOfNums, ByteArray.size]
  obtain ⟨s, hs⟩ : ∃ s, s = strOfNums ck := ⟨_, rfl⟩
  rw [← hs] at HCV hlen ⊢
  have hpz := pagV_big n hn s (by omega)
  have HPA : Hid (∀ W, Calls Tryd.prog 76 #[.int .i64 n, .string s] W fun e w' => e = .returned (.string (pagV n s)) ∧ Below W.heap.size W w') := Lib.hid (fun W => sPag_any n hn s (by omega) W)
  obtain ⟨pv, hpv⟩ : ∃ pv, pv = pagV n s := ⟨_, rfl⟩
  rw [← hpv] at hpz HPA ⊢
  have HSC : Hid (∀ (W : World) (mb : Nat), W.heap[mb]? = some (.cells #[.string pv] 9 (0, 0)) → Calls Tryd.prog 74 #[.string ⟨#[49, 46, 50, 46, 56, 52, 48, 46, 49, 49, 51, 53, 53, 54, 46, 49, 46, 52, 46, 51, 49, 57]⟩, .bool false, .slice (some ⟨mb, 0, none⟩) 1 1] W (Nw W.heap.size W (sCtl ⟨#[49, 46, 50, 46, 56, 52, 48, 46, 49, 49, 51, 53, 53, 54, 46, 49, 46, 52, 46, 51, 49, 57]⟩ false [pv]))) := Lib.hid (fun W mb h => sCtl_nw _ false [pv] (some ⟨mb, 0, none⟩) 1 W (strs_block (l := [pv]) h rfl (by simp)) (by decide) (fun x hx => by rw [List.mem_singleton.1 hx]; omega) (by simp))
  have HSH : Hid (∀ (W : World) (nb : Nat), W.heap[nb]? = some (.cells #[.string s] 9 (0, 0)) → Calls Tryd.prog 10 #[.slice (some ⟨nb, 0, none⟩) 1 1] W fun e w' => e = .returned (.bool (shortT [s])) ∧ Below W.heap.size W w') := Lib.hid (fun W nb h => short_any [s] (some ⟨nb, 0, none⟩) 1 W (strs_block h rfl (by simp)) (Nat.le_refl _) (by simp))
  obtain ⟨sh, hsh⟩ : ∃ sh, sh = shortT [s] := ⟨_, rfl⟩
  rw [← hsh] at HSH ⊢
  obtain ⟨d, hd⟩ : ∃ d, d = sCtl ⟨#[49, 46, 50, 46, 56, 52, 48, 46, 49, 49, 51, 53, 53, 54, 46, 49, 46, 52, 46, 51, 49, 57]⟩ false [pv] := ⟨_, rfl⟩
  simp only [← hd] at HSC ⊢
  obtain ⟨W0, hW0⟩ : ∃ W0, W0 = (w.alloc (.cells #[.int .i64 1, .string o, .bool b, .slice A3 v.length c3, .int .i64 n, .slice A5 ck.length c5] 79)).alloc (.cells #[.int .i64 0, .int .i64 0, .bool false, .slice none 0 0, .slice none 0 0] 33) := ⟨_, rfl⟩
  have HB0 : Hid (Below w.heap.size w W0) := Lib.hid (by rw [hW0]; exact below_alloc (below_alloc (Below.refl _ _) _) _)
  have HX0 : Hid (W0.heap[w.heap.size]? = some (.cells #[.int .i64 1, .string o, .bool b, .slice A3 v.length c3, .int .i64 n, .slice A5 ck.length c5] 79 (0, 0))) := Lib.hid (by rw [hW0]; exact blk_alloc (blk_new _ _) _)
  have HR0 : Hid (W0.heap[w.heap.size + 1]? = some (.cells #[.int .i64 0, .int .i64 0, .bool false, .slice none 0 0, .slice none 0 0] 33 (0, 0))) := Lib.hid (by rw [hW0]; exact two_new _ _ _ _ _)
  have HW0 := Lib.hid hW0
  obtain ⟨wc, hwc⟩ : ∃ wc, wc = W0 := ⟨_, rfl⟩
  rw [← hwc] at HW0 HB0 HX0 HR0
  have HB1 : Hid (Below w.heap.size w wc.drew) := Lib.hid HB0.out.drew
  have HX0d : Hid (wc.drew.heap[w.heap.size]? = some (.cells #[.int .i64 1, .string o, .bool b, .slice A3 v.length c3, .int .i64 n, .slice A5 ck.length c5] 79 (0, 0))) := Lib.hid HX0.out
  have HR0d : Hid (wc.drew.heap[w.heap.size + 1]? = some (.cells #[.int .i64 0, .int .i64 0, .bool false, .slice none 0 0, .slice none 0 0] 33 (0, 0))) := Lib.hid HR0.out
  have HBR : Hid (Below wc.drew.heap.size wc.drew wc.drew) := Lib.hid (Below.refl _ _)
  clear hs hpv hd hsh hW0 hlen hpz hn hC hv hwc
  go_enter Tryd.func39, Tryd.ntmps39
  go_wp2_with fail
  rw [← HW0.out]
  refine start_ (n := 36) (S := fun w' => w'.cell? ⟨w.heap.size, 2, none⟩ = some (.bool b) ∧ w'.cell? ⟨w.heap.size, 3, none⟩ = some (.slice A3 v.length c3) ∧ w'.cell? ⟨w.heap.size, 4, none⟩ = some (.int .i64 n) ∧ w'.cell? ⟨w.heap.size, 5, none⟩ = some (.slice A5 ck.length c5) ∧ (convert 24 9 (.slice A5 ck.length c5)).run Tryd.prog w' = .ok (.string s) w') (ds := []) #[nN,nN,nN,nN,nN,nN,nN,nN,nN,nN,nN,nN,nN,nN,nN,nN,nN,nN,nN,nN,nN,nN,nN,nN,nN,nN,nN,nN,nN,nN,nN,nN,nN,nN,nN,nN] (by kernel_rfl) rfl rfl ⟨blk_cell (HX0d.out) 2, blk_cell (HX0d.out) 3, blk_cell (HX0d.out) 4, blk_cell (HX0d.out) 5, HCV.out _ (HB1.out.trans ((HBR.out).mono HB1.out.size))⟩ (fun hHeld => ?_)
  obtain ⟨W1, hW1⟩ : ∃ W1, W1 = wc.drew := ⟨_, rfl⟩
  rw [← hW1] at HB1 HX0d HR0d HBR hHeld ⊢
  clear hW1
  refine pure_ (i := 0) (N := some 48) (v := ?_) (a' := ?_) #[yY,nN,nN,nN,nN,nN,nN,nN,nN,nN,nN,nN,nN,nN,nN,nN,nN,nN,nN,nN,nN,nN,nN,nN,nN,nN,nN,nN,nN,nN,nN,nN,nN,nN,nN,nN] rfl rfl (by kernel_rfl) (fun _ _ _ h => h) (Or.inl ⟨by rfl, ?_⟩) ?_ ?_
  rotate_left
  · intro w'
    go_simp
    with_reducible rfl
  rotate_left
  · simp only [Act.put, List.setIfInBounds_toArray, List.set_cons_zero, List.set_cons_succ, i64_w, i32_w]
    rfl
  refine pure_ (i := 2) (N := some 50) (v := ?_) (a' := ?_) #[yY,nN,yY,nN,nN,nN,nN,nN,nN,nN,nN,nN,nN,nN,nN,nN,nN,nN,nN,nN,nN,nN,nN,nN,nN,nN,nN,nN,nN,nN,nN,nN,nN,nN,nN,nN] rfl rfl (by kernel_rfl) (fun _ _ _ h => h) (Or.inl ⟨by rfl, ?_⟩) ?_ ?_
  rotate_left
  · intro w'
    go_simp
    with_reducible rfl
  rotate_left
  · simp only [Act.put, List.setIfInBounds_toArray, List.set_cons_zero, List.set_cons_succ, i64_w, i32_w]
    rfl
  refine pure_ (i := 8) (N := some 56) (v := ?_) (a' := ?_) #[yY,nN,yY,nN,nN,nN,nN,nN,yY,nN,nN,nN,nN,nN,nN,nN,nN,nN,nN,nN,nN,nN,nN,nN,nN,nN,nN,nN,nN,nN,nN,nN,nN,nN,nN,nN] rfl rfl (by kernel_rfl) (fun _ _ _ h => h) (Or.inl ⟨by rfl, ?_⟩) ?_ ?_
  rotate_left
  · intro w'
    go_simp
    with_reducible rfl
  rotate_left
  · simp only [Act.put, List.setIfInBounds_toArray, List.set_cons_zero, List.set_cons_succ, i64_w, i32_w]
    rfl
  refine take_ (i := 1) (N := some 49) (v := ?_) (a' := ?_) #[yY,yY,yY,nN,nN,nN,nN,nN,yY,nN,nN,nN,nN,nN,nN,nN,nN,nN,nN,nN,nN,nN,nN,nN,nN,nN,nN,nN,nN,nN,nN,nN,nN,nN,nN,nN] rfl rfl (by kernel_rfl) (fun _ _ _ h => h) (Or.inl ⟨by rfl, ?_⟩) hHeld ?_ ?_
  rotate_left
  · rintro w' ⟨s0, s1, s2, s3, s4⟩
    go_simp
    with_reducible rfl
  rotate_left
  · simp only [Act.put, List.setIfInBounds_toArray, List.set_cons_zero, List.set_cons_succ, i64_w, i32_w]
    rfl
  refine take_ (i := 3) (N := some 51) (v := ?_) (a' := ?_) #[yY,yY,yY,yY,nN,nN,nN,nN,yY,nN,nN,nN,nN,nN,nN,nN,nN,nN,nN,nN,nN,nN,nN,nN,nN,nN,nN,nN,nN,nN,nN,nN,nN,nN,nN,nN] rfl rfl (by kernel_rfl) (fun _ _ _ h => h) (Or.inl ⟨by rfl, ?_⟩) hHeld ?_ ?_
  rotate_left
  · rintro w' ⟨s0, s1, s2, s3, s4⟩
    go_simp
    with_reducible rfl
  rotate_left
  · simp only [Act.put, List.setIfInBounds_toArray, List.set_cons_zero, List.set_cons_succ, i64_w, i32_w]
    rfl
  refine take_ (i := 4) (N := some 52) (v := ?_) (a' := ?_) #[yY,yY,yY,yY,yY,nN,nN,nN,yY,nN,nN,nN,nN,nN,nN,nN,nN,nN,nN,nN,nN,nN,nN,nN,nN,nN,nN,nN,nN,nN,nN,nN,nN,nN,nN,nN] rfl rfl (by kernel_rfl) (fun _ _ _ h => h) (Or.inl ⟨by rfl, ?_⟩) hHeld ?_ ?_
  rotate_left
  · rintro w' ⟨s0, s1, s2, s3, s4⟩
    go_simp
    with_reducible rfl
  rotate_left
  · simp only [Act.put, List.setIfInBounds_toArray, List.set_cons_zero, List.set_cons_succ, i64_w, i32_w]
    rfl
  refine take_ (i := 9) (N := some 57) (v := ?_) (a' := ?_) #[yY,yY,yY,yY,yY,nN,nN,nN,yY,yY,nN,nN,nN,nN,nN,nN,nN,nN,nN,nN,nN,nN,nN,nN,nN,nN,nN,nN,nN,nN,nN,nN,nN,nN,nN,nN] rfl rfl (by kernel_rfl) (fun _ _ _ h => h) (Or.inl ⟨by rfl, ?_⟩) hHeld ?_ ?_
  rotate_left
  · rintro w' ⟨s0, s1, s2, s3, s4⟩
    go_simp
    with_reducible rfl
  rotate_left
  · simp only [Act.put, List.setIfInBounds_toArray, List.set_cons_zero, List.set_cons_succ, i64_w, i32_w]
    rfl
  refine take_ (i := 10) (N := some 58) (v := ?_) (a' := ?_) #[yY,yY,yY,yY,yY,nN,nN,nN,yY,yY,yY,nN,nN,nN,nN,nN,nN,nN,nN,nN,nN,nN,nN,nN,nN,nN,nN,nN,nN,nN,nN,nN,nN,nN,nN,nN] rfl rfl (by kernel_rfl) (fun _ _ _ h => h) (Or.inl ⟨by rfl, ?_⟩) hHeld ?_ ?_
  rotate_left
  · rintro w' ⟨s0, s1, s2, s3, s4⟩
    go_simp
    with_reducible rfl
  rotate_left
  · simp only [Act.put, List.setIfInBounds_toArray, List.set_cons_zero, List.set_cons_succ, i64_w, i32_w]
    rfl
  refine join_ (σ := Option Addr × Nat × Option Addr × Nat × Nat × Nat) 24 #[yY,yY,yY,yY,yY,yY,yY,yY,yY,yY,yY,yY,nN,nN,nN,nN,nN,nN,nN,nN,nN,nN,nN,nN,nN,nN,nN,nN,nN,nN,nN,nN,nN,nN,nN,nN] (fun z => [(53, .string pv), (54, .slice (some ⟨z.2.2.2.2.1, 0, none⟩) 1 1), (55, .agg #[.int .i64 d.f0, .int .i64 d.f1, .bool d.f2, .slice z.1 d.f3.length z.2.1, .slice z.2.2.1 d.f4.length z.2.2.2.1]), (59, .slice (some ⟨z.2.2.2.2.2, 0, none⟩) 1 1)]) (fun z w' => Below W1.heap.size W1 w' ∧ Lies W1.heap.size w' d z.1 z.2.1 z.2.2.1 z.2.2.2.1 ∧ w'.heap[z.2.2.2.2.2]? = some (.cells #[.string s] 9 (0, 0))) ?_ ?_
  rotate_left
  · intro hCont
    refine two_ (i := 5) (j := 11) (Ni := some 53) (Nj := some 59) #[yY,yY,yY,yY,yY,yY,nN,nN,yY,yY,yY,nN,nN,nN,nN,nN,nN,nN,nN,nN,nN,nN,nN,nN,nN,nN,nN,nN,nN,nN,nN,nN,nN,nN,nN,nN] #[yY,yY,yY,yY,yY,nN,nN,nN,yY,yY,yY,yY,nN,nN,nN,nN,nN,nN,nN,nN,nN,nN,nN,nN,nN,nN,nN,nN,nN,nN,nN,nN,nN,nN,nN,nN] rfl rfl rfl rfl (by kernel_rfl) (by decide) (by decide) (fun K hK => ?_) (fun K hK => ?_)
    · skip
      refine goes_ Tryd.func76 (by kernel_rfl) rfl #[.int .i64 n, .string s] (by rfl) rfl rfl (by simp only [List.map_toArray, List.map_cons, List.map_nil]; rfl) ?_
      with_reducible refine (HPA.out _).mono ?_
      rintro e Wp ⟨rfl, hBp⟩
      refine ⟨_, rfl, ?_⟩
      have HBp := Lib.hid ((HBR.out).trans (hBp.mono (HBR.out).size))
      clear hBp
      refine hK.out _ _ ⟨blk_cell (blk_below HX0d.out HBp.out) 2, blk_cell (blk_below HX0d.out HBp.out) 3, blk_cell (blk_below HX0d.out HBp.out) 4, blk_cell (blk_below HX0d.out HBp.out) 5, HCV.out _ (HB1.out.trans ((HBp.out).mono HB1.out.size))⟩ (fun hHeld => ?_)
      clear hK K
      refine norm_ (a' := ?_) ?_ ?_
      rotate_left
      · show Act.put _ (some 53) _ = _
        simp only [Act.put, List.setIfInBounds_toArray, List.set_cons_zero, List.set_cons_succ, i64_w, i32_w]
        rfl
      refine two_ (i := 6) (j := 11) (Ni := some 54) (Nj := some 59) #[yY,yY,yY,yY,yY,yY,yY,nN,yY,yY,yY,nN,nN,nN,nN,nN,nN,nN,nN,nN,nN,nN,nN,nN,nN,nN,nN,nN,nN,nN,nN,nN,nN,nN,nN,nN] #[yY,yY,yY,yY,yY,yY,nN,nN,yY,yY,yY,yY,nN,nN,nN,nN,nN,nN,nN,nN,nN,nN,nN,nN,nN,nN,nN,nN,nN,nN,nN,nN,nN,nN,nN,nN] rfl rfl rfl rfl (by kernel_rfl) (by decide) (by decide) (fun K hK => ?_) (fun K hK => ?_)
      · skip
        refine value_ (w1 := ?_) (v := ?_) (by rfl) rfl ?_ ?_
        rotate_left 2
        · go_simp
          constructor
          · rfl
          · rfl
        obtain ⟨Wpm, hWpm⟩ : ∃ W, W = Wp.alloc (.cells #[.string pv] 9) := ⟨_, rfl⟩
        rw [← hWpm]
        have hBpm : Below Wp.heap.size Wp Wpm := by rw [hWpm]; exact below_alloc (Below.refl _ _) _
        have HBpm := Lib.hid ((HBp.out).trans (hBpm.mono (HBp.out).size))
        have HMpm : Hid (Wpm.heap[Wp.heap.size]? = some (.cells #[.string pv] 9 (0, 0))) := Lib.hid (by rw [hWpm]; exact blk_new _ _)
        clear hWpm hBpm
        refine hK.out _ _ ⟨blk_cell (blk_below HX0d.out HBpm.out) 2, blk_cell (blk_below HX0d.out HBpm.out) 3, blk_cell (blk_below HX0d.out HBpm.out) 4, blk_cell (blk_below HX0d.out HBpm.out) 5, HCV.out _ (HB1.out.trans ((HBpm.out).mono HB1.out.size))⟩ (fun hHeld => ?_)
        clear hK K
        refine norm_ (a' := ?_) ?_ ?_
        rotate_left
        · show Act.put _ (some 54) _ = _
          simp only [Act.put, List.setIfInBounds_toArray, List.set_cons_zero, List.set_cons_succ, i64_w, i32_w]
          rfl
        refine two_ (i := 7) (j := 11) (Ni := some 55) (Nj := some 59) #[yY,yY,yY,yY,yY,yY,yY,yY,yY,yY,yY,nN,nN,nN,nN,nN,nN,nN,nN,nN,nN,nN,nN,nN,nN,nN,nN,nN,nN,nN,nN,nN,nN,nN,nN,nN] #[yY,yY,yY,yY,yY,yY,yY,nN,yY,yY,yY,yY,nN,nN,nN,nN,nN,nN,nN,nN,nN,nN,nN,nN,nN,nN,nN,nN,nN,nN,nN,nN,nN,nN,nN,nN] rfl rfl rfl rfl (by kernel_rfl) (by decide) (by decide) (fun K hK => ?_) (fun K hK => ?_)
        · skip
          refine goes_ Tryd.func74 (by kernel_rfl) rfl #[.string ⟨#[49, 46, 50, 46, 56, 52, 48, 46, 49, 49, 51, 53, 53, 54, 46, 49, 46, 52, 46, 51, 49, 57]⟩, .bool false, .slice (some ⟨Wp.heap.size, 0, none⟩) 1 1] (by rfl) rfl rfl (by simp only [List.map_toArray, List.map_cons, List.map_nil]; rfl) ?_
          with_reducible refine (HSC.out _ _ HMpm.out).mono ?_
          rintro e Wpmc hpmc
          obtain ⟨E3, q3, E4, q4, rfl, hlpmc, hBpmc⟩ := hpmc.open
          refine ⟨_, rfl, ?_⟩
          have HBpmc := Lib.hid ((HBpm.out).trans (hBpmc.mono (HBpm.out).size))
          have HLpmc := Lib.hid (hlpmc.low (HBpm.out).size)
          have HMpmc := Lib.hid (blk_below HMpm.out hBpmc)
          clear hpmc hlpmc hBpmc
          refine hK.out _ _ ⟨blk_cell (blk_below HX0d.out HBpmc.out) 2, blk_cell (blk_below HX0d.out HBpmc.out) 3, blk_cell (blk_below HX0d.out HBpmc.out) 4, blk_cell (blk_below HX0d.out HBpmc.out) 5, HCV.out _ (HB1.out.trans ((HBpmc.out).mono HB1.out.size))⟩ (fun hHeld => ?_)
          clear hK K
          refine norm_ (a' := ?_) ?_ ?_
          rotate_left
          · show Act.put _ (some 55) _ = _
            simp only [Act.put, List.setIfInBounds_toArray, List.set_cons_zero, List.set_cons_succ, i64_w, i32_w]
            rfl
          refine one_ (i := 11) (N := some 59) #[yY,yY,yY,yY,yY,yY,yY,yY,yY,yY,yY,yY,nN,nN,nN,nN,nN,nN,nN,nN,nN,nN,nN,nN,nN,nN,nN,nN,nN,nN,nN,nN,nN,nN,nN,nN] rfl rfl (by kernel_rfl) (by decide) (fun K hK => ?_)
          refine value_ (w1 := ?_) (v := ?_) (by rfl) rfl ?_ ?_
          rotate_left 2
          · go_simp
            constructor
            · rfl
            · rfl
          obtain ⟨Wpmcn, hWpmcn⟩ : ∃ W, W = Wpmc.alloc (.cells #[.string s] 9) := ⟨_, rfl⟩
          rw [← hWpmcn]
          have hBpmcn : Below Wpmc.heap.size Wpmc Wpmcn := by rw [hWpmcn]; exact below_alloc (Below.refl _ _) _
          have HBpmcn := Lib.hid ((HBpmc.out).trans (hBpmcn.mono (HBpmc.out).size))
          have HNpmcn : Hid (Wpmcn.heap[Wpmc.heap.size]? = some (.cells #[.string s] 9 (0, 0))) := Lib.hid (by rw [hWpmcn]; exact blk_new _ _)
          have HMpmcn := Lib.hid (blk_below HMpmc.out hBpmcn)
          have HLpmcn := Lib.hid (HLpmc.out.below hBpmcn)
          clear hWpmcn hBpmcn
          refine hK.out _ _ ⟨blk_cell (blk_below HX0d.out HBpmcn.out) 2, blk_cell (blk_below HX0d.out HBpmcn.out) 3, blk_cell (blk_below HX0d.out HBpmcn.out) 4, blk_cell (blk_below HX0d.out HBpmcn.out) 5, HCV.out _ (HB1.out.trans ((HBpmcn.out).mono HB1.out.size))⟩ (fun hHeld => ?_)
          clear hK K
          refine norm_ (a' := ?_) ?_ ?_
          rotate_left
          · show Act.put _ (some 59) _ = _
            simp only [Act.put, List.setIfInBounds_toArray, List.set_cons_zero, List.set_cons_succ, i64_w, i32_w]
            rfl
          exact norm_ (by simp only [putAll, Act.put, List.setIfInBounds_toArray, List.set_cons_zero, List.set_cons_succ]) (hCont (E3, q3, E4, q4, Wp.heap.size, Wpmc.heap.size) _ ⟨HBpmcn.out, HLpmcn.out, HNpmcn.out⟩)
        · skip
          refine value_ (w1 := ?_) (v := ?_) (by rfl) rfl ?_ ?_
          rotate_left 2
          · go_simp
            constructor
            · rfl
            · rfl
          obtain ⟨Wpmn, hWpmn⟩ : ∃ W, W = Wpm.alloc (.cells #[.string s] 9) := ⟨_, rfl⟩
          rw [← hWpmn]
          have hBpmn : Below Wpm.heap.size Wpm Wpmn := by rw [hWpmn]; exact below_alloc (Below.refl _ _) _
          have HBpmn := Lib.hid ((HBpm.out).trans (hBpmn.mono (HBpm.out).size))
          have HNpmn : Hid (Wpmn.heap[Wpm.heap.size]? = some (.cells #[.string s] 9 (0, 0))) := Lib.hid (by rw [hWpmn]; exact blk_new _ _)
          have HMpmn := Lib.hid (blk_below HMpm.out hBpmn)
          clear hWpmn hBpmn
          refine hK.out _ _ ⟨blk_cell (blk_below HX0d.out HBpmn.out) 2, blk_cell (blk_below HX0d.out HBpmn.out) 3, blk_cell (blk_below HX0d.out HBpmn.out) 4, blk_cell (blk_below HX0d.out HBpmn.out) 5, HCV.out _ (HB1.out.trans ((HBpmn.out).mono HB1.out.size))⟩ (fun hHeld => ?_)
          clear hK K
          refine norm_ (a' := ?_) ?_ ?_
          rotate_left
          · show Act.put _ (some 59) _ = _
            simp only [Act.put, List.setIfInBounds_toArray, List.set_cons_zero, List.set_cons_succ, i64_w, i32_w]
            rfl
          refine one_ (i := 7) (N := some 55) #[yY,yY,yY,yY,yY,yY,yY,yY,yY,yY,yY,yY,nN,nN,nN,nN,nN,nN,nN,nN,nN,nN,nN,nN,nN,nN,nN,nN,nN,nN,nN,nN,nN,nN,nN,nN] rfl rfl (by kernel_rfl) (by decide) (fun K hK => ?_)
          refine goes_ Tryd.func74 (by kernel_rfl) rfl #[.string ⟨#[49, 46, 50, 46, 56, 52, 48, 46, 49, 49, 51, 53, 53, 54, 46, 49, 46, 52, 46, 51, 49, 57]⟩, .bool false, .slice (some ⟨Wp.heap.size, 0, none⟩) 1 1] (by rfl) rfl rfl (by simp only [List.map_toArray, List.map_cons, List.map_nil]; rfl) ?_
          with_reducible refine (HSC.out _ _ HMpmn.out).mono ?_
          rintro e Wpmnc hpmnc
          obtain ⟨E3, q3, E4, q4, rfl, hlpmnc, hBpmnc⟩ := hpmnc.open
          refine ⟨_, rfl, ?_⟩
          have HBpmnc := Lib.hid ((HBpmn.out).trans (hBpmnc.mono (HBpmn.out).size))
          have HLpmnc := Lib.hid (hlpmnc.low (HBpmn.out).size)
          have HMpmnc := Lib.hid (blk_below HMpmn.out hBpmnc)
          have HNpmnc := Lib.hid (blk_below HNpmn.out hBpmnc)
          clear hpmnc hlpmnc hBpmnc
          refine hK.out _ _ ⟨blk_cell (blk_below HX0d.out HBpmnc.out) 2, blk_cell (blk_below HX0d.out HBpmnc.out) 3, blk_cell (blk_below HX0d.out HBpmnc.out) 4, blk_cell (blk_below HX0d.out HBpmnc.out) 5, HCV.out _ (HB1.out.trans ((HBpmnc.out).mono HB1.out.size))⟩ (fun hHeld => ?_)
          clear hK K
          refine norm_ (a' := ?_) ?_ ?_
          rotate_left
          · show Act.put _ (some 55) _ = _
            simp only [Act.put, List.setIfInBounds_toArray, List.set_cons_zero, List.set_cons_succ, i64_w, i32_w]
            rfl
          exact norm_ (by simp only [putAll, Act.put, List.setIfInBounds_toArray, List.set_cons_zero, List.set_cons_succ]) (hCont (E3, q3, E4, q4, Wp.heap.size, Wpm.heap.size) _ ⟨HBpmnc.out, HLpmnc.out, HNpmnc.out⟩)
      · skip
        refine value_ (w1 := ?_) (v := ?_) (by rfl) rfl ?_ ?_
        rotate_left 2
        · go_simp
          constructor
          · rfl
          · rfl
        obtain ⟨Wpn, hWpn⟩ : ∃ W, W = Wp.alloc (.cells #[.string s] 9) := ⟨_, rfl⟩
        rw [← hWpn]
        have hBpn : Below Wp.heap.size Wp Wpn := by rw [hWpn]; exact below_alloc (Below.refl _ _) _
        have HBpn := Lib.hid ((HBp.out).trans (hBpn.mono (HBp.out).size))
        have HNpn : Hid (Wpn.heap[Wp.heap.size]? = some (.cells #[.string s] 9 (0, 0))) := Lib.hid (by rw [hWpn]; exact blk_new _ _)
        clear hWpn hBpn
        refine hK.out _ _ ⟨blk_cell (blk_below HX0d.out HBpn.out) 2, blk_cell (blk_below HX0d.out HBpn.out) 3, blk_cell (blk_below HX0d.out HBpn.out) 4, blk_cell (blk_below HX0d.out HBpn.out) 5, HCV.out _ (HB1.out.trans ((HBpn.out).mono HB1.out.size))⟩ (fun hHeld => ?_)
        clear hK K
        refine norm_ (a' := ?_) ?_ ?_
        rotate_left
        · show Act.put _ (some 59) _ = _
          simp only [Act.put, List.setIfInBounds_toArray, List.set_cons_zero, List.set_cons_succ, i64_w, i32_w]
          rfl
        refine one_ (i := 6) (N := some 54) #[yY,yY,yY,yY,yY,yY,yY,nN,yY,yY,yY,yY,nN,nN,nN,nN,nN,nN,nN,nN,nN,nN,nN,nN,nN,nN,nN,nN,nN,nN,nN,nN,nN,nN,nN,nN] rfl rfl (by kernel_rfl) (by decide) (fun K hK => ?_)
        refine value_ (w1 := ?_) (v := ?_) (by rfl) rfl ?_ ?_
        rotate_left 2
        · go_simp
          constructor
          · rfl
          · rfl
        obtain ⟨Wpnm, hWpnm⟩ : ∃ W, W = Wpn.alloc (.cells #[.string pv] 9) := ⟨_, rfl⟩
        rw [← hWpnm]
        have hBpnm : Below Wpn.heap.size Wpn Wpnm := by rw [hWpnm]; exact below_alloc (Below.refl _ _) _
        have HBpnm := Lib.hid ((HBpn.out).trans (hBpnm.mono (HBpn.out).size))
        have HMpnm : Hid (Wpnm.heap[Wpn.heap.size]? = some (.cells #[.string pv] 9 (0, 0))) := Lib.hid (by rw [hWpnm]; exact blk_new _ _)
        have HNpnm := Lib.hid (blk_below HNpn.out hBpnm)
        clear hWpnm hBpnm
        refine hK.out _ _ ⟨blk_cell (blk_below HX0d.out HBpnm.out) 2, blk_cell (blk_below HX0d.out HBpnm.out) 3, blk_cell (blk_below HX0d.out HBpnm.out) 4, blk_cell (blk_below HX0d.out HBpnm.out) 5, HCV.out _ (HB1.out.trans ((HBpnm.out).mono HB1.out.size))⟩ (fun hHeld => ?_)
        clear hK K
        refine norm_ (a' := ?_) ?_ ?_
        rotate_left
        · show Act.put _ (some 54) _ = _
          simp only [Act.put, List.setIfInBounds_toArray, List.set_cons_zero, List.set_cons_succ, i64_w, i32_w]
          rfl
        refine one_ (i := 7) (N := some 55) #[yY,yY,yY,yY,yY,yY,yY,yY,yY,yY,yY,yY,nN,nN,nN,nN,nN,nN,nN,nN,nN,nN,nN,nN,nN,nN,nN,nN,nN,nN,nN,nN,nN,nN,nN,nN] rfl rfl (by kernel_rfl) (by decide) (fun K hK => ?_)
        refine goes_ Tryd.func74 (by kernel_rfl) rfl #[.string ⟨#[49, 46, 50, 46, 56, 52, 48, 46, 49, 49, 51, 53, 53, 54, 46, 49, 46, 52, 46, 51, 49, 57]⟩, .bool false, .slice (some ⟨Wpn.heap.size, 0, none⟩) 1 1] (by rfl) rfl rfl (by simp only [List.map_toArray, List.map_cons, List.map_nil]; rfl) ?_
        with_reducible refine (HSC.out _ _ HMpnm.out).mono ?_
        rintro e Wpnmc hpnmc
        obtain ⟨E3, q3, E4, q4, rfl, hlpnmc, hBpnmc⟩ := hpnmc.open
        refine ⟨_, rfl, ?_⟩
        have HBpnmc := Lib.hid ((HBpnm.out).trans (hBpnmc.mono (HBpnm.out).size))
        have HLpnmc := Lib.hid (hlpnmc.low (HBpnm.out).size)
        have HMpnmc := Lib.hid (blk_below HMpnm.out hBpnmc)
        have HNpnmc := Lib.hid (blk_below HNpnm.out hBpnmc)
        clear hpnmc hlpnmc hBpnmc
        refine hK.out _ _ ⟨blk_cell (blk_below HX0d.out HBpnmc.out) 2, blk_cell (blk_below HX0d.out HBpnmc.out) 3, blk_cell (blk_below HX0d.out HBpnmc.out) 4, blk_cell (blk_below HX0d.out HBpnmc.out) 5, HCV.out _ (HB1.out.trans ((HBpnmc.out).mono HB1.out.size))⟩ (fun hHeld => ?_)
        clear hK K
        refine norm_ (a' := ?_) ?_ ?_
        rotate_left
        · show Act.put _ (some 55) _ = _
          simp only [Act.put, List.setIfInBounds_toArray, List.set_cons_zero, List.set_cons_succ, i64_w, i32_w]
          rfl
        exact norm_ (by simp only [putAll, Act.put, List.setIfInBounds_toArray, List.set_cons_zero, List.set_cons_succ]) (hCont (E3, q3, E4, q4, Wpn.heap.size, Wp.heap.size) _ ⟨HBpnmc.out, HLpnmc.out, HNpnmc.out⟩)
    · skip
      refine value_ (w1 := ?_) (v := ?_) (by rfl) rfl ?_ ?_
      rotate_left 2
      · go_simp
        constructor
        · rfl
        · rfl
      obtain ⟨Wn, hWn⟩ : ∃ W, W = W1.alloc (.cells #[.string s] 9) := ⟨_, rfl⟩
      rw [← hWn]
      have hBn : Below W1.heap.size W1 Wn := by rw [hWn]; exact below_alloc (Below.refl _ _) _
      have HBn := Lib.hid ((HBR.out).trans (hBn.mono (HBR.out).size))
      have HNn : Hid (Wn.heap[W1.heap.size]? = some (.cells #[.string s] 9 (0, 0))) := Lib.hid (by rw [hWn]; exact blk_new _ _)
      clear hWn hBn
      refine hK.out _ _ ⟨blk_cell (blk_below HX0d.out HBn.out) 2, blk_cell (blk_below HX0d.out HBn.out) 3, blk_cell (blk_below HX0d.out HBn.out) 4, blk_cell (blk_below HX0d.out HBn.out) 5, HCV.out _ (HB1.out.trans ((HBn.out).mono HB1.out.size))⟩ (fun hHeld => ?_)
      clear hK K
      refine norm_ (a' := ?_) ?_ ?_
      rotate_left
      · show Act.put _ (some 59) _ = _
        simp only [Act.put, List.setIfInBounds_toArray, List.set_cons_zero, List.set_cons_succ, i64_w, i32_w]
        rfl
      refine one_ (i := 5) (N := some 53) #[yY,yY,yY,yY,yY,yY,nN,nN,yY,yY,yY,yY,nN,nN,nN,nN,nN,nN,nN,nN,nN,nN,nN,nN,nN,nN,nN,nN,nN,nN,nN,nN,nN,nN,nN,nN] rfl rfl (by kernel_rfl) (by decide) (fun K hK => ?_)
      refine goes_ Tryd.func76 (by kernel_rfl) rfl #[.int .i64 n, .string s] (by rfl) rfl rfl (by simp only [List.map_toArray, List.map_cons, List.map_nil]; rfl) ?_
      with_reducible refine (HPA.out _).mono ?_
      rintro e Wnp ⟨rfl, hBnp⟩
      refine ⟨_, rfl, ?_⟩
      have HBnp := Lib.hid ((HBn.out).trans (hBnp.mono (HBn.out).size))
      have HNnp := Lib.hid (blk_below HNn.out hBnp)
      clear hBnp
      refine hK.out _ _ ⟨blk_cell (blk_below HX0d.out HBnp.out) 2, blk_cell (blk_below HX0d.out HBnp.out) 3, blk_cell (blk_below HX0d.out HBnp.out) 4, blk_cell (blk_below HX0d.out HBnp.out) 5, HCV.out _ (HB1.out.trans ((HBnp.out).mono HB1.out.size))⟩ (fun hHeld => ?_)
      clear hK K
      refine norm_ (a' := ?_) ?_ ?_
      rotate_left
      · show Act.put _ (some 53) _ = _
        simp only [Act.put, List.setIfInBounds_toArray, List.set_cons_zero, List.set_cons_succ, i64_w, i32_w]
        rfl
      refine one_ (i := 6) (N := some 54) #[yY,yY,yY,yY,yY,yY,yY,nN,yY,yY,yY,yY,nN,nN,nN,nN,nN,nN,nN,nN,nN,nN,nN,nN,nN,nN,nN,nN,nN,nN,nN,nN,nN,nN,nN,nN] rfl rfl (by kernel_rfl) (by decide) (fun K hK => ?_)
      refine value_ (w1 := ?_) (v := ?_) (by rfl) rfl ?_ ?_
      rotate_left 2
      · go_simp
        constructor
        · rfl
        · rfl
      obtain ⟨Wnpm, hWnpm⟩ : ∃ W, W = Wnp.alloc (.cells #[.string pv] 9) := ⟨_, rfl⟩
      rw [← hWnpm]
      have hBnpm : Below Wnp.heap.size Wnp Wnpm := by rw [hWnpm]; exact below_alloc (Below.refl _ _) _
      have HBnpm := Lib.hid ((HBnp.out).trans (hBnpm.mono (HBnp.out).size))
      have HMnpm : Hid (Wnpm.heap[Wnp.heap.size]? = some (.cells #[.string pv] 9 (0, 0))) := Lib.hid (by rw [hWnpm]; exact blk_new _ _)
      have HNnpm := Lib.hid (blk_below HNnp.out hBnpm)
      clear hWnpm hBnpm
      refine hK.out _ _ ⟨blk_cell (blk_below HX0d.out HBnpm.out) 2, blk_cell (blk_below HX0d.out HBnpm.out) 3, blk_cell (blk_below HX0d.out HBnpm.out) 4, blk_cell (blk_below HX0d.out HBnpm.out) 5, HCV.out _ (HB1.out.trans ((HBnpm.out).mono HB1.out.size))⟩ (fun hHeld => ?_)
      clear hK K
      refine norm_ (a' := ?_) ?_ ?_
      rotate_left
      · show Act.put _ (some 54) _ = _
        simp only [Act.put, List.setIfInBounds_toArray, List.set_cons_zero, List.set_cons_succ, i64_w, i32_w]
        rfl
      refine one_ (i := 7) (N := some 55) #[yY,yY,yY,yY,yY,yY,yY,yY,yY,yY,yY,yY,nN,nN,nN,nN,nN,nN,nN,nN,nN,nN,nN,nN,nN,nN,nN,nN,nN,nN,nN,nN,nN,nN,nN,nN] rfl rfl (by kernel_rfl) (by decide) (fun K hK => ?_)
      refine goes_ Tryd.func74 (by kernel_rfl) rfl #[.string ⟨#[49, 46, 50, 46, 56, 52, 48, 46, 49, 49, 51, 53, 53, 54, 46, 49, 46, 52, 46, 51, 49, 57]⟩, .bool false, .slice (some ⟨Wnp.heap.size, 0, none⟩) 1 1] (by rfl) rfl rfl (by simp only [List.map_toArray, List.map_cons, List.map_nil]; rfl) ?_
      with_reducible refine (HSC.out _ _ HMnpm.out).mono ?_
      rintro e Wnpmc hnpmc
      obtain ⟨E3, q3, E4, q4, rfl, hlnpmc, hBnpmc⟩ := hnpmc.open
      refine ⟨_, rfl, ?_⟩
      have HBnpmc := Lib.hid ((HBnpm.out).trans (hBnpmc.mono (HBnpm.out).size))
      have HLnpmc := Lib.hid (hlnpmc.low (HBnpm.out).size)
      have HMnpmc := Lib.hid (blk_below HMnpm.out hBnpmc)
      have HNnpmc := Lib.hid (blk_below HNnpm.out hBnpmc)
      clear hnpmc hlnpmc hBnpmc
      refine hK.out _ _ ⟨blk_cell (blk_below HX0d.out HBnpmc.out) 2, blk_cell (blk_below HX0d.out HBnpmc.out) 3, blk_cell (blk_below HX0d.out HBnpmc.out) 4, blk_cell (blk_below HX0d.out HBnpmc.out) 5, HCV.out _ (HB1.out.trans ((HBnpmc.out).mono HB1.out.size))⟩ (fun hHeld => ?_)
      clear hK K
      refine norm_ (a' := ?_) ?_ ?_
      rotate_left
      · show Act.put _ (some 55) _ = _
        simp only [Act.put, List.setIfInBounds_toArray, List.set_cons_zero, List.set_cons_succ, i64_w, i32_w]
        rfl
      exact norm_ (by simp only [putAll, Act.put, List.setIfInBounds_toArray, List.set_cons_zero, List.set_cons_succ]) (hCont (E3, q3, E4, q4, Wnp.heap.size, W1.heap.size) _ ⟨HBnpmc.out, HLnpmc.out, HNnpmc.out⟩)
  rintro ⟨E3, q3, E4, q4, mb, nb⟩ WF ⟨hBF, hLF, hNF⟩
  have HBF := Lib.hid hBF
  have HLF := Lib.hid hLF
  have HNF := Lib.hid hNF
  clear hBF hLF hNF
  have hHeld : WF.cell? ⟨w.heap.size, 2, none⟩ = some (.bool b) ∧ WF.cell? ⟨w.heap.size, 3, none⟩ = some (.slice A3 v.length c3) ∧ WF.cell? ⟨w.heap.size, 4, none⟩ = some (.int .i64 n) ∧ WF.cell? ⟨w.heap.size, 5, none⟩ = some (.slice A5 ck.length c5) ∧ (convert 24 9 (.slice A5 ck.length c5)).run Tryd.prog WF = .ok (.string s) WF := ⟨blk_cell (blk_below HX0d.out HBF.out) 2, blk_cell (blk_below HX0d.out HBF.out) 3, blk_cell (blk_below HX0d.out HBF.out) 4, blk_cell (blk_below HX0d.out HBF.out) 5, HCV.out _ (HB1.out.trans ((HBF.out).mono HB1.out.size))⟩
  refine norm_ (a' := ?_) ?_ ?_
  rotate_left
  · simp only [putAll, Act.put, List.setIfInBounds_toArray, List.set_cons_zero, List.set_cons_succ]
    rfl
  refine one_ (i := 12) (N := some 60) #[yY,yY,yY,yY,yY,yY,yY,yY,yY,yY,yY,yY,yY,nN,nN,nN,nN,nN,nN,nN,nN,nN,nN,nN,nN,nN,nN,nN,nN,nN,nN,nN,nN,nN,nN,nN] rfl rfl (by kernel_rfl) (by decide) (fun K hK => ?_)
  refine goes_ Tryd.func10 (by kernel_rfl) rfl #[.slice (some ⟨nb, 0, none⟩) 1 1] (by rfl) rfl rfl (by simp only [List.map_toArray, List.map_cons, List.map_nil]; rfl) ?_
  with_reducible refine (HSH.out _ _ HNF.out).mono ?_
  rintro e WS ⟨rfl, hBS⟩
  refine ⟨_, rfl, ?_⟩
  have HBS := Lib.hid (HBF.out.trans (hBS.mono HBF.out.size))
  have HLS := Lib.hid (HLF.out.below hBS)
  clear hBS HBF HLF HNF hHeld
  refine hK.out _ _ ⟨blk_cell (blk_below HX0d.out HBS.out) 2, blk_cell (blk_below HX0d.out HBS.out) 3, blk_cell (blk_below HX0d.out HBS.out) 4, blk_cell (blk_below HX0d.out HBS.out) 5, HCV.out _ (HB1.out.trans ((HBS.out).mono HB1.out.size))⟩ (fun hHeld => ?_)
  clear hK K
  refine norm_ (a' := ?_) ?_ ?_
  rotate_left
  · show Act.put _ (some 60) _ = _
    simp only [Act.put, List.setIfInBounds_toArray, List.set_cons_zero, List.set_cons_succ, i64_w, i32_w]
    rfl
  refine pure_ (i := 13) (N := some 61) (v := ?_) (a' := ?_) #[yY,yY,yY,yY,yY,yY,yY,yY,yY,yY,yY,yY,yY,yY,nN,nN,nN,nN,nN,nN,nN,nN,nN,nN,nN,nN,nN,nN,nN,nN,nN,nN,nN,nN,nN,nN] rfl rfl (by kernel_rfl) (fun _ _ _ h => h) (Or.inl ⟨by rfl, ?_⟩) ?_ ?_
  rotate_left
  · intro w'
    go_simp
    with_reducible rfl
  rotate_left
  · simp only [Act.put, List.setIfInBounds_toArray, List.set_cons_zero, List.set_cons_succ, i64_w, i32_w]
    rfl
  cases sh
  · skip
    refine pure_ (i := 14) (N := some 62) (v := undef) (a' := ?_) #[yY,yY,yY,yY,yY,yY,yY,yY,yY,yY,yY,yY,yY,yY,yY,nN,nN,nN,nN,nN,nN,nN,nN,nN,nN,nN,nN,nN,nN,nN,nN,nN,nN,nN,nN,nN] rfl rfl (by kernel_rfl) (fun _ _ _ h => h) (Or.inr ⟨by rfl, rfl⟩) ?_ ?_
    rotate_left
    · simp only [Act.put, List.setIfInBounds_toArray, List.set_cons_zero, List.set_cons_succ, i64_w, i32_w]
      rfl
    refine pure_ (i := 15) (N := some 63) (v := undef) (a' := ?_) #[yY,yY,yY,yY,yY,yY,yY,yY,yY,yY,yY,yY,yY,yY,yY,yY,nN,nN,nN,nN,nN,nN,nN,nN,nN,nN,nN,nN,nN,nN,nN,nN,nN,nN,nN,nN] rfl rfl (by kernel_rfl) (fun _ _ _ h => h) (Or.inr ⟨by rfl, rfl⟩) ?_ ?_
    rotate_left
    · simp only [Act.put, List.setIfInBounds_toArray, List.set_cons_zero, List.set_cons_succ, i64_w, i32_w]
      rfl
    refine pure_ (i := 16) (N := some 64) (v := undef) (a' := ?_) #[yY,yY,yY,yY,yY,yY,yY,yY,yY,yY,yY,yY,yY,yY,yY,yY,yY,nN,nN,nN,nN,nN,nN,nN,nN,nN,nN,nN,nN,nN,nN,nN,nN,nN,nN,nN] rfl rfl (by kernel_rfl) (fun _ _ _ h => h) (Or.inr ⟨by rfl, rfl⟩) ?_ ?_
    rotate_left
    · simp only [Act.put, List.setIfInBounds_toArray, List.set_cons_zero, List.set_cons_succ, i64_w, i32_w]
      rfl
    refine pure_ (i := 17) (N := some 65) (v := ?_) (a' := ?_) #[yY,yY,yY,yY,yY,yY,yY,yY,yY,yY,yY,yY,yY,yY,yY,yY,yY,yY,nN,nN,nN,nN,nN,nN,nN,nN,nN,nN,nN,nN,nN,nN,nN,nN,nN,nN] rfl rfl (by kernel_rfl) (fun _ _ _ h => h) (Or.inl ⟨by rfl, ?_⟩) ?_ ?_
    rotate_left
    · intro w'
      go_simp
      with_reducible rfl
    rotate_left
    · simp only [Act.put, List.setIfInBounds_toArray, List.set_cons_zero, List.set_cons_succ, i64_w, i32_w]
      rfl
    refine pure_ (i := 18) (N := some 66) (v := ?_) (a' := ?_) #[yY,yY,yY,yY,yY,yY,yY,yY,yY,yY,yY,yY,yY,yY,yY,yY,yY,yY,yY,nN,nN,nN,nN,nN,nN,nN,nN,nN,nN,nN,nN,nN,nN,nN,nN,nN] rfl rfl (by kernel_rfl) (fun _ _ _ h => h) (Or.inl ⟨by rfl, ?_⟩) ?_ ?_
    rotate_left
    · intro w'
      go_simp
      with_reducible rfl
    rotate_left
    · simp only [Act.put, List.setIfInBounds_toArray, List.set_cons_zero, List.set_cons_succ, i64_w, i32_w]
      rfl
    refine pure_ (i := 19) (N := some 67) (v := undef) (a' := ?_) #[yY,yY,yY,yY,yY,yY,yY,yY,yY,yY,yY,yY,yY,yY,yY,yY,yY,yY,yY,yY,nN,nN,nN,nN,nN,nN,nN,nN,nN,nN,nN,nN,nN,nN,nN,nN] rfl rfl (by kernel_rfl) (fun _ _ _ h => h) (Or.inr ⟨by rfl, rfl⟩) ?_ ?_
    rotate_left
    · simp only [Act.put, List.setIfInBounds_toArray, List.set_cons_zero, List.set_cons_succ, i64_w, i32_w]
      rfl
    refine pure_ (i := 20) (N := some 68) (v := undef) (a' := ?_) #[yY,yY,yY,yY,yY,yY,yY,yY,yY,yY,yY,yY,yY,yY,yY,yY,yY,yY,yY,yY,yY,nN,nN,nN,nN,nN,nN,nN,nN,nN,nN,nN,nN,nN,nN,nN] rfl rfl (by kernel_rfl) (fun _ _ _ h => h) (Or.inr ⟨by rfl, rfl⟩) ?_ ?_
    rotate_left
    · simp only [Act.put, List.setIfInBounds_toArray, List.set_cons_zero, List.set_cons_succ, i64_w, i32_w]
      rfl
    refine pure_ (i := 21) (N := some 69) (v := undef) (a' := ?_) #[yY,yY,yY,yY,yY,yY,yY,yY,yY,yY,yY,yY,yY,yY,yY,yY,yY,yY,yY,yY,yY,yY,nN,nN,nN,nN,nN,nN,nN,nN,nN,nN,nN,nN,nN,nN] rfl rfl (by kernel_rfl) (fun _ _ _ h => h) (Or.inr ⟨by rfl, rfl⟩) ?_ ?_
    rotate_left
    · simp only [Act.put, List.setIfInBounds_toArray, List.set_cons_zero, List.set_cons_succ, i64_w, i32_w]
      rfl
    refine pure_ (i := 22) (N := some 70) (v := ?_) (a' := ?_) #[yY,yY,yY,yY,yY,yY,yY,yY,yY,yY,yY,yY,yY,yY,yY,yY,yY,yY,yY,yY,yY,yY,yY,nN,nN,nN,nN,nN,nN,nN,nN,nN,nN,nN,nN,nN] rfl rfl (by kernel_rfl) (fun _ _ _ h => h) (Or.inl ⟨by rfl, ?_⟩) ?_ ?_
    rotate_left
    · intro w'
      go_simp
      with_reducible rfl
    rotate_left
    · simp only [Act.put, List.setIfInBounds_toArray, List.set_cons_zero, List.set_cons_succ, i64_w, i32_w]
      rfl
    refine pure_ (i := 23) (N := some 71) (v := ?_) (a' := ?_) #[yY,yY,yY,yY,yY,yY,yY,yY,yY,yY,yY,yY,yY,yY,yY,yY,yY,yY,yY,yY,yY,yY,yY,yY,nN,nN,nN,nN,nN,nN,nN,nN,nN,nN,nN,nN] rfl rfl (by kernel_rfl) (fun _ _ _ h => h) (Or.inl ⟨by rfl, ?_⟩) ?_ ?_
    rotate_left
    · intro w'
      go_simp
      with_reducible rfl
    rotate_left
    · simp only [Act.put, List.setIfInBounds_toArray, List.set_cons_zero, List.set_cons_succ, i64_w, i32_w]
      rfl
    refine pure_ (i := 24) (N := some 72) (v := undef) (a' := ?_) #[yY,yY,yY,yY,yY,yY,yY,yY,yY,yY,yY,yY,yY,yY,yY,yY,yY,yY,yY,yY,yY,yY,yY,yY,yY,nN,nN,nN,nN,nN,nN,nN,nN,nN,nN,nN] rfl rfl (by kernel_rfl) (fun _ _ _ h => h) (Or.inr ⟨by rfl, rfl⟩) ?_ ?_
    rotate_left
    · simp only [Act.put, List.setIfInBounds_toArray, List.set_cons_zero, List.set_cons_succ, i64_w, i32_w]
      rfl
    refine pure_ (i := 25) (N := some 73) (v := undef) (a' := ?_) #[yY,yY,yY,yY,yY,yY,yY,yY,yY,yY,yY,yY,yY,yY,yY,yY,yY,yY,yY,yY,yY,yY,yY,yY,yY,yY,nN,nN,nN,nN,nN,nN,nN,nN,nN,nN] rfl rfl (by kernel_rfl) (fun _ _ _ h => h) (Or.inr ⟨by rfl, rfl⟩) ?_ ?_
    rotate_left
    · simp only [Act.put, List.setIfInBounds_toArray, List.set_cons_zero, List.set_cons_succ, i64_w, i32_w]
      rfl
    refine pure_ (i := 26) (N := some 74) (v := undef) (a' := ?_) #[yY,yY,yY,yY,yY,yY,yY,yY,yY,yY,yY,yY,yY,yY,yY,yY,yY,yY,yY,yY,yY,yY,yY,yY,yY,yY,yY,nN,nN,nN,nN,nN,nN,nN,nN,nN] rfl rfl (by kernel_rfl) (fun _ _ _ h => h) (Or.inr ⟨by rfl, rfl⟩) ?_ ?_
    rotate_left
    · simp only [Act.put, List.setIfInBounds_toArray, List.set_cons_zero, List.set_cons_succ, i64_w, i32_w]
      rfl
    refine pure_ (i := 27) (N := some 75) (v := ?_) (a' := ?_) #[yY,yY,yY,yY,yY,yY,yY,yY,yY,yY,yY,yY,yY,yY,yY,yY,yY,yY,yY,yY,yY,yY,yY,yY,yY,yY,yY,yY,nN,nN,nN,nN,nN,nN,nN,nN] rfl rfl (by kernel_rfl) (fun _ _ _ h => h) (Or.inl ⟨by rfl, ?_⟩) ?_ ?_
    rotate_left
    · intro w'
      go_simp
      with_reducible rfl
    rotate_left
    · simp only [Act.put, List.setIfInBounds_toArray, List.set_cons_zero, List.set_cons_succ, i64_w, i32_w]
      rfl
    refine pure_ (i := 28) (N := some 76) (v := ?_) (a' := ?_) #[yY,yY,yY,yY,yY,yY,yY,yY,yY,yY,yY,yY,yY,yY,yY,yY,yY,yY,yY,yY,yY,yY,yY,yY,yY,yY,yY,yY,yY,nN,nN,nN,nN,nN,nN,nN] rfl rfl (by kernel_rfl) (fun _ _ _ h => h) (Or.inl ⟨by rfl, ?_⟩) ?_ ?_
    rotate_left
    · intro w'
      go_simp
      with_reducible rfl
    rotate_left
    · simp only [Act.put, List.setIfInBounds_toArray, List.set_cons_zero, List.set_cons_succ, i64_w, i32_w]
      rfl
    refine pure_ (i := 29) (N := some 77) (v := undef) (a' := ?_) #[yY,yY,yY,yY,yY,yY,yY,yY,yY,yY,yY,yY,yY,yY,yY,yY,yY,yY,yY,yY,yY,yY,yY,yY,yY,yY,yY,yY,yY,yY,nN,nN,nN,nN,nN,nN] rfl rfl (by kernel_rfl) (fun _ _ _ h => h) (Or.inr ⟨by rfl, rfl⟩) ?_ ?_
    rotate_left
    · simp only [Act.put, List.setIfInBounds_toArray, List.set_cons_zero, List.set_cons_succ, i64_w, i32_w]
      rfl
    refine pure_ (i := 30) (N := some 78) (v := undef) (a' := ?_) #[yY,yY,yY,yY,yY,yY,yY,yY,yY,yY,yY,yY,yY,yY,yY,yY,yY,yY,yY,yY,yY,yY,yY,yY,yY,yY,yY,yY,yY,yY,yY,nN,nN,nN,nN,nN] rfl rfl (by kernel_rfl) (fun _ _ _ h => h) (Or.inr ⟨by rfl, rfl⟩) ?_ ?_
    rotate_left
    · simp only [Act.put, List.setIfInBounds_toArray, List.set_cons_zero, List.set_cons_succ, i64_w, i32_w]
      rfl
    refine pure_ (i := 31) (N := some 79) (v := undef) (a' := ?_) #[yY,yY,yY,yY,yY,yY,yY,yY,yY,yY,yY,yY,yY,yY,yY,yY,yY,yY,yY,yY,yY,yY,yY,yY,yY,yY,yY,yY,yY,yY,yY,yY,nN,nN,nN,nN] rfl rfl (by kernel_rfl) (fun _ _ _ h => h) (Or.inr ⟨by rfl, rfl⟩) ?_ ?_
    rotate_left
    · simp only [Act.put, List.setIfInBounds_toArray, List.set_cons_zero, List.set_cons_succ, i64_w, i32_w]
      rfl
    refine pure_ (i := 32) (N := some 80) (v := undef) (a' := ?_) #[yY,yY,yY,yY,yY,yY,yY,yY,yY,yY,yY,yY,yY,yY,yY,yY,yY,yY,yY,yY,yY,yY,yY,yY,yY,yY,yY,yY,yY,yY,yY,yY,yY,nN,nN,nN] rfl rfl (by kernel_rfl) (fun _ _ _ h => h) (Or.inr ⟨by rfl, rfl⟩) ?_ ?_
    rotate_left
    · simp only [Act.put, List.setIfInBounds_toArray, List.set_cons_zero, List.set_cons_succ, i64_w, i32_w]
      rfl
    refine pure_ (i := 33) (N := some 81) (v := ?_) (a' := ?_) #[yY,yY,yY,yY,yY,yY,yY,yY,yY,yY,yY,yY,yY,yY,yY,yY,yY,yY,yY,yY,yY,yY,yY,yY,yY,yY,yY,yY,yY,yY,yY,yY,yY,yY,nN,nN] rfl rfl (by kernel_rfl) (fun _ _ _ h => h) (Or.inl ⟨by rfl, ?_⟩) ?_ ?_
    rotate_left
    · intro w'
      go_simp
      with_reducible rfl
    rotate_left
    · simp only [Act.put, List.setIfInBounds_toArray, List.set_cons_zero, List.set_cons_succ, i64_w, i32_w]
      rfl
    refine one_ (i := 34) (N := none) #[yY,yY,yY,yY,yY,yY,yY,yY,yY,yY,yY,yY,yY,yY,yY,yY,yY,yY,yY,yY,yY,yY,yY,yY,yY,yY,yY,yY,yY,yY,yY,yY,yY,yY,yY,nN] rfl rfl (by kernel_rfl) (by decide) (fun K hK => ?_)
    have HBX := HBS
    have HLX := HLS
    have HRX := Lib.hid (blk_below HR0d.out HBX.out)
    have r0 := blk_cell HRX.out 0
    have r1 := blk_cell HRX.out 1
    have r2 := blk_cell HRX.out 2
    have r3 := blk_cell HRX.out 3
    have r4 := blk_cell HRX.out 4
    have rf0 := blk_frozen HRX.out 0
    have rf1 := blk_frozen HRX.out 1
    have rf2 := blk_frozen HRX.out 2
    have rf3 := blk_frozen HRX.out 3
    have rf4 := blk_frozen HRX.out 4
    refine skip_ (w1 := ?_) (by rfl) rfl ?_ ?_
    rotate_left
    · go_simp
      rfl
    refine hK.out _ _ ⟨blk_cell (far5 (blk_below HX0d.out HBX.out) (by omega) _ _ _ _ _) 2, blk_cell (far5 (blk_below HX0d.out HBX.out) (by omega) _ _ _ _ _) 3, blk_cell (far5 (blk_below HX0d.out HBX.out) (by omega) _ _ _ _ _) 4, blk_cell (far5 (blk_below HX0d.out HBX.out) (by omega) _ _ _ _ _) 5, HCV.out _ (below5 (HB1.out.trans (HBX.out.mono HB1.out.size)) (Nat.le_succ _) _ _ _ _ _)⟩ (fun hHeld => ?_)
    clear hK K
    refine pure_ (i := 35) (N := some 3) (v := ?_) (a' := ?_) #[yY,yY,yY,yY,yY,yY,yY,yY,yY,yY,yY,yY,yY,yY,yY,yY,yY,yY,yY,yY,yY,yY,yY,yY,yY,yY,yY,yY,yY,yY,yY,yY,yY,yY,yY,yY] rfl rfl (by kernel_rfl) (fun _ _ _ h => h) (Or.inl ⟨by rfl, ?_⟩) ?_ ?_
    rotate_left
    · intro w'
      go_simp
      with_reducible rfl
    rotate_left
    · simp only [Act.put, List.setIfInBounds_toArray, List.set_cons_zero, List.set_cons_succ, i64_w, i32_w]
      rfl
    refine done_ (by kernel_rfl) ?_
    have HS0 : Hid (w.heap.size + 1 < W1.heap.size) := Lib.hid (blk_lt HR0d.out)
    try go_wp2
    try simp only [Exit.inBlock, Exit.then]
    exact bodyPost_ret (results_ct (p := 2) (u := 3) rfl _ _ _ _ _ _ _ rfl (set5 HRX.out (.int .i64 d.f0) (.int .i64 d.f1) (.bool d.f2) (.slice E3 d.f3.length q3) (.slice E4 d.f4.length q4)) Tryd.underlying33 rfl size33) rfl
      ⟨E3, q3, E4, q4, rfl, lies5 HLX.out HS0.out (by have := HS0.out; omega) _ _ _ _ _, below5 (HB1.out.trans (HBX.out.mono HB1.out.size)) (Nat.le_succ _) _ _ _ _ _⟩
  · skip
    refine pure_ (i := 14) (N := some 62) (v := ?_) (a' := ?_) #[yY,yY,yY,yY,yY,yY,yY,yY,yY,yY,yY,yY,yY,yY,yY,nN,nN,nN,nN,nN,nN,nN,nN,nN,nN,nN,nN,nN,nN,nN,nN,nN,nN,nN,nN,nN] rfl rfl (by kernel_rfl) (fun _ _ _ h => h) (Or.inl ⟨by rfl, ?_⟩) ?_ ?_
    rotate_left
    · intro w'
      go_simp
      with_reducible rfl
    rotate_left
    · simp only [Act.put, List.setIfInBounds_toArray, List.set_cons_zero, List.set_cons_succ, i64_w, i32_w]
      rfl
    refine take_ (i := 15) (N := some 63) (v := ?_) (a' := ?_) #[yY,yY,yY,yY,yY,yY,yY,yY,yY,yY,yY,yY,yY,yY,yY,yY,nN,nN,nN,nN,nN,nN,nN,nN,nN,nN,nN,nN,nN,nN,nN,nN,nN,nN,nN,nN] rfl rfl (by kernel_rfl) (fun _ _ _ h => h) (Or.inl ⟨by rfl, ?_⟩) hHeld ?_ ?_
    rotate_left
    · rintro w' ⟨s0, s1, s2, s3, s4⟩
      go_simp
      with_reducible rfl
    rotate_left
    · simp only [Act.put, List.setIfInBounds_toArray, List.set_cons_zero, List.set_cons_succ, i64_w, i32_w]
      rfl
    refine pure_ (i := 16) (N := some 64) (v := ?_) (a' := ?_) #[yY,yY,yY,yY,yY,yY,yY,yY,yY,yY,yY,yY,yY,yY,yY,yY,yY,nN,nN,nN,nN,nN,nN,nN,nN,nN,nN,nN,nN,nN,nN,nN,nN,nN,nN,nN] rfl rfl (by kernel_rfl) (fun _ _ _ h => h) (Or.inl ⟨by rfl, ?_⟩) ?_ ?_
    rotate_left
    · intro w'
      go_simp
      with_reducible rfl
    rotate_left
    · simp only [Act.put, List.setIfInBounds_toArray, List.set_cons_zero, List.set_cons_succ, i64_w, i32_w]
      rfl
    refine pure_ (i := 17) (N := some 65) (v := ?_) (a' := ?_) #[yY,yY,yY,yY,yY,yY,yY,yY,yY,yY,yY,yY,yY,yY,yY,yY,yY,yY,nN,nN,nN,nN,nN,nN,nN,nN,nN,nN,nN,nN,nN,nN,nN,nN,nN,nN] rfl rfl (by kernel_rfl) (fun _ _ _ h => h) (Or.inl ⟨by rfl, ?_⟩) ?_ ?_
    rotate_left
    · intro w'
      go_simp
      with_reducible rfl
    rotate_left
    · simp only [Act.put, List.setIfInBounds_toArray, List.set_cons_zero, List.set_cons_succ, i64_w, i32_w]
      rfl
    refine pure_ (i := 18) (N := some 66) (v := ?_) (a' := ?_) #[yY,yY,yY,yY,yY,yY,yY,yY,yY,yY,yY,yY,yY,yY,yY,yY,yY,yY,yY,nN,nN,nN,nN,nN,nN,nN,nN,nN,nN,nN,nN,nN,nN,nN,nN,nN] rfl rfl (by kernel_rfl) (fun _ _ _ h => h) (Or.inl ⟨by rfl, ?_⟩) ?_ ?_
    rotate_left
    · intro w'
      go_simp
      with_reducible rfl
    rotate_left
    · simp only [Act.put, List.setIfInBounds_toArray, List.set_cons_zero, List.set_cons_succ, i64_w, i32_w]
      rfl
    cases h4 : decide (0 ≤ n)
    · skip
      refine pure_ (i := 19) (N := some 67) (v := undef) (a' := ?_) #[yY,yY,yY,yY,yY,yY,yY,yY,yY,yY,yY,yY,yY,yY,yY,yY,yY,yY,yY,yY,nN,nN,nN,nN,nN,nN,nN,nN,nN,nN,nN,nN,nN,nN,nN,nN] rfl rfl (by kernel_rfl) (fun _ _ _ h => h) (Or.inr ⟨by rfl, rfl⟩) ?_ ?_
      rotate_left
      · simp only [Act.put, List.setIfInBounds_toArray, List.set_cons_zero, List.set_cons_succ, i64_w, i32_w]
        rfl
      refine pure_ (i := 20) (N := some 68) (v := undef) (a' := ?_) #[yY,yY,yY,yY,yY,yY,yY,yY,yY,yY,yY,yY,yY,yY,yY,yY,yY,yY,yY,yY,yY,nN,nN,nN,nN,nN,nN,nN,nN,nN,nN,nN,nN,nN,nN,nN] rfl rfl (by kernel_rfl) (fun _ _ _ h => h) (Or.inr ⟨by rfl, rfl⟩) ?_ ?_
      rotate_left
      · simp only [Act.put, List.setIfInBounds_toArray, List.set_cons_zero, List.set_cons_succ, i64_w, i32_w]
        rfl
      refine pure_ (i := 21) (N := some 69) (v := undef) (a' := ?_) #[yY,yY,yY,yY,yY,yY,yY,yY,yY,yY,yY,yY,yY,yY,yY,yY,yY,yY,yY,yY,yY,yY,nN,nN,nN,nN,nN,nN,nN,nN,nN,nN,nN,nN,nN,nN] rfl rfl (by kernel_rfl) (fun _ _ _ h => h) (Or.inr ⟨by rfl, rfl⟩) ?_ ?_
      rotate_left
      · simp only [Act.put, List.setIfInBounds_toArray, List.set_cons_zero, List.set_cons_succ, i64_w, i32_w]
        rfl
      refine pure_ (i := 22) (N := some 70) (v := ?_) (a' := ?_) #[yY,yY,yY,yY,yY,yY,yY,yY,yY,yY,yY,yY,yY,yY,yY,yY,yY,yY,yY,yY,yY,yY,yY,nN,nN,nN,nN,nN,nN,nN,nN,nN,nN,nN,nN,nN] rfl rfl (by kernel_rfl) (fun _ _ _ h => h) (Or.inl ⟨by rfl, ?_⟩) ?_ ?_
      rotate_left
      · intro w'
        go_simp
        with_reducible rfl
      rotate_left
      · simp only [Act.put, List.setIfInBounds_toArray, List.set_cons_zero, List.set_cons_succ, i64_w, i32_w]
        rfl
      refine pure_ (i := 23) (N := some 71) (v := ?_) (a' := ?_) #[yY,yY,yY,yY,yY,yY,yY,yY,yY,yY,yY,yY,yY,yY,yY,yY,yY,yY,yY,yY,yY,yY,yY,yY,nN,nN,nN,nN,nN,nN,nN,nN,nN,nN,nN,nN] rfl rfl (by kernel_rfl) (fun _ _ _ h => h) (Or.inl ⟨by rfl, ?_⟩) ?_ ?_
      rotate_left
      · intro w'
        go_simp
        with_reducible rfl
      rotate_left
      · simp only [Act.put, List.setIfInBounds_toArray, List.set_cons_zero, List.set_cons_succ, i64_w, i32_w]
        rfl
      refine pure_ (i := 24) (N := some 72) (v := undef) (a' := ?_) #[yY,yY,yY,yY,yY,yY,yY,yY,yY,yY,yY,yY,yY,yY,yY,yY,yY,yY,yY,yY,yY,yY,yY,yY,yY,nN,nN,nN,nN,nN,nN,nN,nN,nN,nN,nN] rfl rfl (by kernel_rfl) (fun _ _ _ h => h) (Or.inr ⟨by rfl, rfl⟩) ?_ ?_
      rotate_left
      · simp only [Act.put, List.setIfInBounds_toArray, List.set_cons_zero, List.set_cons_succ, i64_w, i32_w]
        rfl
      refine pure_ (i := 25) (N := some 73) (v := undef) (a' := ?_) #[yY,yY,yY,yY,yY,yY,yY,yY,yY,yY,yY,yY,yY,yY,yY,yY,yY,yY,yY,yY,yY,yY,yY,yY,yY,yY,nN,nN,nN,nN,nN,nN,nN,nN,nN,nN] rfl rfl (by kernel_rfl) (fun _ _ _ h => h) (Or.inr ⟨by rfl, rfl⟩) ?_ ?_
      rotate_left
      · simp only [Act.put, List.setIfInBounds_toArray, List.set_cons_zero, List.set_cons_succ, i64_w, i32_w]
        rfl
      refine pure_ (i := 26) (N := some 74) (v := undef) (a' := ?_) #[yY,yY,yY,yY,yY,yY,yY,yY,yY,yY,yY,yY,yY,yY,yY,yY,yY,yY,yY,yY,yY,yY,yY,yY,yY,yY,yY,nN,nN,nN,nN,nN,nN,nN,nN,nN] rfl rfl (by kernel_rfl) (fun _ _ _ h => h) (Or.inr ⟨by rfl, rfl⟩) ?_ ?_
      rotate_left
      · simp only [Act.put, List.setIfInBounds_toArray, List.set_cons_zero, List.set_cons_succ, i64_w, i32_w]
        rfl
      refine pure_ (i := 27) (N := some 75) (v := ?_) (a' := ?_) #[yY,yY,yY,yY,yY,yY,yY,yY,yY,yY,yY,yY,yY,yY,yY,yY,yY,yY,yY,yY,yY,yY,yY,yY,yY,yY,yY,yY,nN,nN,nN,nN,nN,nN,nN,nN] rfl rfl (by kernel_rfl) (fun _ _ _ h => h) (Or.inl ⟨by rfl, ?_⟩) ?_ ?_
      rotate_left
      · intro w'
        go_simp
        with_reducible rfl
      rotate_left
      · simp only [Act.put, List.setIfInBounds_toArray, List.set_cons_zero, List.set_cons_succ, i64_w, i32_w]
        rfl
      refine pure_ (i := 28) (N := some 76) (v := ?_) (a' := ?_) #[yY,yY,yY,yY,yY,yY,yY,yY,yY,yY,yY,yY,yY,yY,yY,yY,yY,yY,yY,yY,yY,yY,yY,yY,yY,yY,yY,yY,yY,nN,nN,nN,nN,nN,nN,nN] rfl rfl (by kernel_rfl) (fun _ _ _ h => h) (Or.inl ⟨by rfl, ?_⟩) ?_ ?_
      rotate_left
      · intro w'
        go_simp
        with_reducible rfl
      rotate_left
      · simp only [Act.put, List.setIfInBounds_toArray, List.set_cons_zero, List.set_cons_succ, i64_w, i32_w]
        rfl
      refine pure_ (i := 29) (N := some 77) (v := undef) (a' := ?_) #[yY,yY,yY,yY,yY,yY,yY,yY,yY,yY,yY,yY,yY,yY,yY,yY,yY,yY,yY,yY,yY,yY,yY,yY,yY,yY,yY,yY,yY,yY,nN,nN,nN,nN,nN,nN] rfl rfl (by kernel_rfl) (fun _ _ _ h => h) (Or.inr ⟨by rfl, rfl⟩) ?_ ?_
      rotate_left
      · simp only [Act.put, List.setIfInBounds_toArray, List.set_cons_zero, List.set_cons_succ, i64_w, i32_w]
        rfl
      refine pure_ (i := 30) (N := some 78) (v := undef) (a' := ?_) #[yY,yY,yY,yY,yY,yY,yY,yY,yY,yY,yY,yY,yY,yY,yY,yY,yY,yY,yY,yY,yY,yY,yY,yY,yY,yY,yY,yY,yY,yY,yY,nN,nN,nN,nN,nN] rfl rfl (by kernel_rfl) (fun _ _ _ h => h) (Or.inr ⟨by rfl, rfl⟩) ?_ ?_
      rotate_left
      · simp only [Act.put, List.setIfInBounds_toArray, List.set_cons_zero, List.set_cons_succ, i64_w, i32_w]
        rfl
      refine pure_ (i := 31) (N := some 79) (v := undef) (a' := ?_) #[yY,yY,yY,yY,yY,yY,yY,yY,yY,yY,yY,yY,yY,yY,yY,yY,yY,yY,yY,yY,yY,yY,yY,yY,yY,yY,yY,yY,yY,yY,yY,yY,nN,nN,nN,nN] rfl rfl (by kernel_rfl) (fun _ _ _ h => h) (Or.inr ⟨by rfl, rfl⟩) ?_ ?_
      rotate_left
      · simp only [Act.put, List.setIfInBounds_toArray, List.set_cons_zero, List.set_cons_succ, i64_w, i32_w]
        rfl
      refine pure_ (i := 32) (N := some 80) (v := undef) (a' := ?_) #[yY,yY,yY,yY,yY,yY,yY,yY,yY,yY,yY,yY,yY,yY,yY,yY,yY,yY,yY,yY,yY,yY,yY,yY,yY,yY,yY,yY,yY,yY,yY,yY,yY,nN,nN,nN] rfl rfl (by kernel_rfl) (fun _ _ _ h => h) (Or.inr ⟨by rfl, rfl⟩) ?_ ?_
      rotate_left
      · simp only [Act.put, List.setIfInBounds_toArray, List.set_cons_zero, List.set_cons_succ, i64_w, i32_w]
        rfl
      refine pure_ (i := 33) (N := some 81) (v := ?_) (a' := ?_) #[yY,yY,yY,yY,yY,yY,yY,yY,yY,yY,yY,yY,yY,yY,yY,yY,yY,yY,yY,yY,yY,yY,yY,yY,yY,yY,yY,yY,yY,yY,yY,yY,yY,yY,nN,nN] rfl rfl (by kernel_rfl) (fun _ _ _ h => h) (Or.inl ⟨by rfl, ?_⟩) ?_ ?_
      rotate_left
      · intro w'
        go_simp
        with_reducible rfl
      rotate_left
      · simp only [Act.put, List.setIfInBounds_toArray, List.set_cons_zero, List.set_cons_succ, i64_w, i32_w]
        rfl
      refine one_ (i := 34) (N := none) #[yY,yY,yY,yY,yY,yY,yY,yY,yY,yY,yY,yY,yY,yY,yY,yY,yY,yY,yY,yY,yY,yY,yY,yY,yY,yY,yY,yY,yY,yY,yY,yY,yY,yY,yY,nN] rfl rfl (by kernel_rfl) (by decide) (fun K hK => ?_)
      have HBX := HBS
      have HLX := HLS
      have HRX := Lib.hid (blk_below HR0d.out HBX.out)
      have r0 := blk_cell HRX.out 0
      have r1 := blk_cell HRX.out 1
      have r2 := blk_cell HRX.out 2
      have r3 := blk_cell HRX.out 3
      have r4 := blk_cell HRX.out 4
      have rf0 := blk_frozen HRX.out 0
      have rf1 := blk_frozen HRX.out 1
      have rf2 := blk_frozen HRX.out 2
      have rf3 := blk_frozen HRX.out 3
      have rf4 := blk_frozen HRX.out 4
      refine skip_ (w1 := ?_) (by rfl) rfl ?_ ?_
      rotate_left
      · go_simp
        rfl
      refine hK.out _ _ ⟨blk_cell (far5 (blk_below HX0d.out HBX.out) (by omega) _ _ _ _ _) 2, blk_cell (far5 (blk_below HX0d.out HBX.out) (by omega) _ _ _ _ _) 3, blk_cell (far5 (blk_below HX0d.out HBX.out) (by omega) _ _ _ _ _) 4, blk_cell (far5 (blk_below HX0d.out HBX.out) (by omega) _ _ _ _ _) 5, HCV.out _ (below5 (HB1.out.trans (HBX.out.mono HB1.out.size)) (Nat.le_succ _) _ _ _ _ _)⟩ (fun hHeld => ?_)
      clear hK K
      refine pure_ (i := 35) (N := some 3) (v := ?_) (a' := ?_) #[yY,yY,yY,yY,yY,yY,yY,yY,yY,yY,yY,yY,yY,yY,yY,yY,yY,yY,yY,yY,yY,yY,yY,yY,yY,yY,yY,yY,yY,yY,yY,yY,yY,yY,yY,yY] rfl rfl (by kernel_rfl) (fun _ _ _ h => h) (Or.inl ⟨by rfl, ?_⟩) ?_ ?_
      rotate_left
      · intro w'
        go_simp
        with_reducible rfl
      rotate_left
      · simp only [Act.put, List.setIfInBounds_toArray, List.set_cons_zero, List.set_cons_succ, i64_w, i32_w]
        rfl
      refine done_ (by kernel_rfl) ?_
      have HS0 : Hid (w.heap.size + 1 < W1.heap.size) := Lib.hid (blk_lt HR0d.out)
      try go_wp2
      try simp only [Exit.inBlock, Exit.then]
      exact bodyPost_ret (results_ct (p := 2) (u := 3) rfl _ _ _ _ _ _ _ rfl (set5 HRX.out (.int .i64 d.f0) (.int .i64 d.f1) (.bool d.f2) (.slice E3 d.f3.length q3) (.slice E4 d.f4.length q4)) Tryd.underlying33 rfl size33) rfl
        ⟨E3, q3, E4, q4, rfl, lies5 HLX.out HS0.out (by have := HS0.out; omega) _ _ _ _ _, below5 (HB1.out.trans (HBX.out.mono HB1.out.size)) (Nat.le_succ _) _ _ _ _ _⟩
    · skip
      refine pure_ (i := 19) (N := some 67) (v := ?_) (a' := ?_) #[yY,yY,yY,yY,yY,yY,yY,yY,yY,yY,yY,yY,yY,yY,yY,yY,yY,yY,yY,yY,nN,nN,nN,nN,nN,nN,nN,nN,nN,nN,nN,nN,nN,nN,nN,nN] rfl rfl (by kernel_rfl) (fun _ _ _ h => h) (Or.inl ⟨by rfl, ?_⟩) ?_ ?_
      rotate_left
      · intro w'
        go_simp
        with_reducible rfl
      rotate_left
      · simp only [Act.put, List.setIfInBounds_toArray, List.set_cons_zero, List.set_cons_succ, i64_w, i32_w]
        rfl
      refine take_ (i := 20) (N := some 68) (v := ?_) (a' := ?_) #[yY,yY,yY,yY,yY,yY,yY,yY,yY,yY,yY,yY,yY,yY,yY,yY,yY,yY,yY,yY,yY,nN,nN,nN,nN,nN,nN,nN,nN,nN,nN,nN,nN,nN,nN,nN] rfl rfl (by kernel_rfl) (fun _ _ _ h => h) (Or.inl ⟨by rfl, ?_⟩) hHeld ?_ ?_
      rotate_left
      · rintro w' ⟨s0, s1, s2, s3, s4⟩
        go_simp
        with_reducible rfl
      rotate_left
      · simp only [Act.put, List.setIfInBounds_toArray, List.set_cons_zero, List.set_cons_succ, i64_w, i32_w]
        rfl
      refine pure_ (i := 21) (N := some 69) (v := ?_) (a' := ?_) #[yY,yY,yY,yY,yY,yY,yY,yY,yY,yY,yY,yY,yY,yY,yY,yY,yY,yY,yY,yY,yY,yY,nN,nN,nN,nN,nN,nN,nN,nN,nN,nN,nN,nN,nN,nN] rfl rfl (by kernel_rfl) (fun _ _ _ h => h) (Or.inl ⟨by rfl, ?_⟩) ?_ ?_
      rotate_left
      · intro w'
        go_simp
        with_reducible rfl
      rotate_left
      · simp only [Act.put, List.setIfInBounds_toArray, List.set_cons_zero, List.set_cons_succ, i64_w, i32_w]
        rfl
      refine pure_ (i := 22) (N := some 70) (v := ?_) (a' := ?_) #[yY,yY,yY,yY,yY,yY,yY,yY,yY,yY,yY,yY,yY,yY,yY,yY,yY,yY,yY,yY,yY,yY,yY,nN,nN,nN,nN,nN,nN,nN,nN,nN,nN,nN,nN,nN] rfl rfl (by kernel_rfl) (fun _ _ _ h => h) (Or.inl ⟨by rfl, ?_⟩) ?_ ?_
      rotate_left
      · intro w'
        go_simp
        with_reducible rfl
      rotate_left
      · simp only [Act.put, List.setIfInBounds_toArray, List.set_cons_zero, List.set_cons_succ, i64_w, i32_w]
        rfl
      refine pure_ (i := 23) (N := some 71) (v := ?_) (a' := ?_) #[yY,yY,yY,yY,yY,yY,yY,yY,yY,yY,yY,yY,yY,yY,yY,yY,yY,yY,yY,yY,yY,yY,yY,yY,nN,nN,nN,nN,nN,nN,nN,nN,nN,nN,nN,nN] rfl rfl (by kernel_rfl) (fun _ _ _ h => h) (Or.inl ⟨by rfl, ?_⟩) ?_ ?_
      rotate_left
      · intro w'
        go_simp
        with_reducible rfl
      rotate_left
      · simp only [Act.put, List.setIfInBounds_toArray, List.set_cons_zero, List.set_cons_succ, i64_w, i32_w]
        rfl
      cases h5 : decide (n < 2147483648)
      · skip
        refine pure_ (i := 24) (N := some 72) (v := undef) (a' := ?_) #[yY,yY,yY,yY,yY,yY,yY,yY,yY,yY,yY,yY,yY,yY,yY,yY,yY,yY,yY,yY,yY,yY,yY,yY,yY,nN,nN,nN,nN,nN,nN,nN,nN,nN,nN,nN] rfl rfl (by kernel_rfl) (fun _ _ _ h => h) (Or.inr ⟨by rfl, rfl⟩) ?_ ?_
        rotate_left
        · simp only [Act.put, List.setIfInBounds_toArray, List.set_cons_zero, List.set_cons_succ, i64_w, i32_w]
          rfl
        refine pure_ (i := 25) (N := some 73) (v := undef) (a' := ?_) #[yY,yY,yY,yY,yY,yY,yY,yY,yY,yY,yY,yY,yY,yY,yY,yY,yY,yY,yY,yY,yY,yY,yY,yY,yY,yY,nN,nN,nN,nN,nN,nN,nN,nN,nN,nN] rfl rfl (by kernel_rfl) (fun _ _ _ h => h) (Or.inr ⟨by rfl, rfl⟩) ?_ ?_
        rotate_left
        · simp only [Act.put, List.setIfInBounds_toArray, List.set_cons_zero, List.set_cons_succ, i64_w, i32_w]
          rfl
        refine pure_ (i := 26) (N := some 74) (v := undef) (a' := ?_) #[yY,yY,yY,yY,yY,yY,yY,yY,yY,yY,yY,yY,yY,yY,yY,yY,yY,yY,yY,yY,yY,yY,yY,yY,yY,yY,yY,nN,nN,nN,nN,nN,nN,nN,nN,nN] rfl rfl (by kernel_rfl) (fun _ _ _ h => h) (Or.inr ⟨by rfl, rfl⟩) ?_ ?_
        rotate_left
        · simp only [Act.put, List.setIfInBounds_toArray, List.set_cons_zero, List.set_cons_succ, i64_w, i32_w]
          rfl
        refine pure_ (i := 27) (N := some 75) (v := ?_) (a' := ?_) #[yY,yY,yY,yY,yY,yY,yY,yY,yY,yY,yY,yY,yY,yY,yY,yY,yY,yY,yY,yY,yY,yY,yY,yY,yY,yY,yY,yY,nN,nN,nN,nN,nN,nN,nN,nN] rfl rfl (by kernel_rfl) (fun _ _ _ h => h) (Or.inl ⟨by rfl, ?_⟩) ?_ ?_
        rotate_left
        · intro w'
          go_simp
          with_reducible rfl
        rotate_left
        · simp only [Act.put, List.setIfInBounds_toArray, List.set_cons_zero, List.set_cons_succ, i64_w, i32_w]
          rfl
        refine pure_ (i := 28) (N := some 76) (v := ?_) (a' := ?_) #[yY,yY,yY,yY,yY,yY,yY,yY,yY,yY,yY,yY,yY,yY,yY,yY,yY,yY,yY,yY,yY,yY,yY,yY,yY,yY,yY,yY,yY,nN,nN,nN,nN,nN,nN,nN] rfl rfl (by kernel_rfl) (fun _ _ _ h => h) (Or.inl ⟨by rfl, ?_⟩) ?_ ?_
        rotate_left
        · intro w'
          go_simp
          with_reducible rfl
        rotate_left
        · simp only [Act.put, List.setIfInBounds_toArray, List.set_cons_zero, List.set_cons_succ, i64_w, i32_w]
          rfl
        refine pure_ (i := 29) (N := some 77) (v := undef) (a' := ?_) #[yY,yY,yY,yY,yY,yY,yY,yY,yY,yY,yY,yY,yY,yY,yY,yY,yY,yY,yY,yY,yY,yY,yY,yY,yY,yY,yY,yY,yY,yY,nN,nN,nN,nN,nN,nN] rfl rfl (by kernel_rfl) (fun _ _ _ h => h) (Or.inr ⟨by rfl, rfl⟩) ?_ ?_
        rotate_left
        · simp only [Act.put, List.setIfInBounds_toArray, List.set_cons_zero, List.set_cons_succ, i64_w, i32_w]
          rfl
        refine pure_ (i := 30) (N := some 78) (v := undef) (a' := ?_) #[yY,yY,yY,yY,yY,yY,yY,yY,yY,yY,yY,yY,yY,yY,yY,yY,yY,yY,yY,yY,yY,yY,yY,yY,yY,yY,yY,yY,yY,yY,yY,nN,nN,nN,nN,nN] rfl rfl (by kernel_rfl) (fun _ _ _ h => h) (Or.inr ⟨by rfl, rfl⟩) ?_ ?_
        rotate_left
        · simp only [Act.put, List.setIfInBounds_toArray, List.set_cons_zero, List.set_cons_succ, i64_w, i32_w]
          rfl
        refine pure_ (i := 31) (N := some 79) (v := undef) (a' := ?_) #[yY,yY,yY,yY,yY,yY,yY,yY,yY,yY,yY,yY,yY,yY,yY,yY,yY,yY,yY,yY,yY,yY,yY,yY,yY,yY,yY,yY,yY,yY,yY,yY,nN,nN,nN,nN] rfl rfl (by kernel_rfl) (fun _ _ _ h => h) (Or.inr ⟨by rfl, rfl⟩) ?_ ?_
        rotate_left
        · simp only [Act.put, List.setIfInBounds_toArray, List.set_cons_zero, List.set_cons_succ, i64_w, i32_w]
          rfl
        refine pure_ (i := 32) (N := some 80) (v := undef) (a' := ?_) #[yY,yY,yY,yY,yY,yY,yY,yY,yY,yY,yY,yY,yY,yY,yY,yY,yY,yY,yY,yY,yY,yY,yY,yY,yY,yY,yY,yY,yY,yY,yY,yY,yY,nN,nN,nN] rfl rfl (by kernel_rfl) (fun _ _ _ h => h) (Or.inr ⟨by rfl, rfl⟩) ?_ ?_
        rotate_left
        · simp only [Act.put, List.setIfInBounds_toArray, List.set_cons_zero, List.set_cons_succ, i64_w, i32_w]
          rfl
        refine pure_ (i := 33) (N := some 81) (v := ?_) (a' := ?_) #[yY,yY,yY,yY,yY,yY,yY,yY,yY,yY,yY,yY,yY,yY,yY,yY,yY,yY,yY,yY,yY,yY,yY,yY,yY,yY,yY,yY,yY,yY,yY,yY,yY,yY,nN,nN] rfl rfl (by kernel_rfl) (fun _ _ _ h => h) (Or.inl ⟨by rfl, ?_⟩) ?_ ?_
        rotate_left
        · intro w'
          go_simp
          with_reducible rfl
        rotate_left
        · simp only [Act.put, List.setIfInBounds_toArray, List.set_cons_zero, List.set_cons_succ, i64_w, i32_w]
          rfl
        refine one_ (i := 34) (N := none) #[yY,yY,yY,yY,yY,yY,yY,yY,yY,yY,yY,yY,yY,yY,yY,yY,yY,yY,yY,yY,yY,yY,yY,yY,yY,yY,yY,yY,yY,yY,yY,yY,yY,yY,yY,nN] rfl rfl (by kernel_rfl) (by decide) (fun K hK => ?_)
        have HBX := HBS
        have HLX := HLS
        have HRX := Lib.hid (blk_below HR0d.out HBX.out)
        have r0 := blk_cell HRX.out 0
        have r1 := blk_cell HRX.out 1
        have r2 := blk_cell HRX.out 2
        have r3 := blk_cell HRX.out 3
        have r4 := blk_cell HRX.out 4
        have rf0 := blk_frozen HRX.out 0
        have rf1 := blk_frozen HRX.out 1
        have rf2 := blk_frozen HRX.out 2
        have rf3 := blk_frozen HRX.out 3
        have rf4 := blk_frozen HRX.out 4
        refine skip_ (w1 := ?_) (by rfl) rfl ?_ ?_
        rotate_left
        · go_simp
          rfl
        refine hK.out _ _ ⟨blk_cell (far5 (blk_below HX0d.out HBX.out) (by omega) _ _ _ _ _) 2, blk_cell (far5 (blk_below HX0d.out HBX.out) (by omega) _ _ _ _ _) 3, blk_cell (far5 (blk_below HX0d.out HBX.out) (by omega) _ _ _ _ _) 4, blk_cell (far5 (blk_below HX0d.out HBX.out) (by omega) _ _ _ _ _) 5, HCV.out _ (below5 (HB1.out.trans (HBX.out.mono HB1.out.size)) (Nat.le_succ _) _ _ _ _ _)⟩ (fun hHeld => ?_)
        clear hK K
        refine pure_ (i := 35) (N := some 3) (v := ?_) (a' := ?_) #[yY,yY,yY,yY,yY,yY,yY,yY,yY,yY,yY,yY,yY,yY,yY,yY,yY,yY,yY,yY,yY,yY,yY,yY,yY,yY,yY,yY,yY,yY,yY,yY,yY,yY,yY,yY] rfl rfl (by kernel_rfl) (fun _ _ _ h => h) (Or.inl ⟨by rfl, ?_⟩) ?_ ?_
        rotate_left
        · intro w'
          go_simp
          with_reducible rfl
        rotate_left
        · simp only [Act.put, List.setIfInBounds_toArray, List.set_cons_zero, List.set_cons_succ, i64_w, i32_w]
          rfl
        refine done_ (by kernel_rfl) ?_
        have HS0 : Hid (w.heap.size + 1 < W1.heap.size) := Lib.hid (blk_lt HR0d.out)
        try go_wp2
        try simp only [Exit.inBlock, Exit.then]
        exact bodyPost_ret (results_ct (p := 2) (u := 3) rfl _ _ _ _ _ _ _ rfl (set5 HRX.out (.int .i64 d.f0) (.int .i64 d.f1) (.bool d.f2) (.slice E3 d.f3.length q3) (.slice E4 d.f4.length q4)) Tryd.underlying33 rfl size33) rfl
          ⟨E3, q3, E4, q4, rfl, lies5 HLX.out HS0.out (by have := HS0.out; omega) _ _ _ _ _, below5 (HB1.out.trans (HBX.out.mono HB1.out.size)) (Nat.le_succ _) _ _ _ _ _⟩
      · skip
        refine pure_ (i := 24) (N := some 72) (v := ?_) (a' := ?_) #[yY,yY,yY,yY,yY,yY,yY,yY,yY,yY,yY,yY,yY,yY,yY,yY,yY,yY,yY,yY,yY,yY,yY,yY,yY,nN,nN,nN,nN,nN,nN,nN,nN,nN,nN,nN] rfl rfl (by kernel_rfl) (fun _ _ _ h => h) (Or.inl ⟨by rfl, ?_⟩) ?_ ?_
        rotate_left
        · intro w'
          go_simp
          with_reducible rfl
        rotate_left
        · simp only [Act.put, List.setIfInBounds_toArray, List.set_cons_zero, List.set_cons_succ, i64_w, i32_w]
          rfl
        refine take_ (i := 25) (N := some 73) (v := ?_) (a' := ?_) #[yY,yY,yY,yY,yY,yY,yY,yY,yY,yY,yY,yY,yY,yY,yY,yY,yY,yY,yY,yY,yY,yY,yY,yY,yY,yY,nN,nN,nN,nN,nN,nN,nN,nN,nN,nN] rfl rfl (by kernel_rfl) (fun _ _ _ h => h) (Or.inl ⟨by rfl, ?_⟩) hHeld ?_ ?_
        rotate_left
        · rintro w' ⟨s0, s1, s2, s3, s4⟩
          go_simp
          with_reducible rfl
        rotate_left
        · simp only [Act.put, List.setIfInBounds_toArray, List.set_cons_zero, List.set_cons_succ, i64_w, i32_w]
          rfl
        refine pure_ (i := 26) (N := some 74) (v := ?_) (a' := ?_) #[yY,yY,yY,yY,yY,yY,yY,yY,yY,yY,yY,yY,yY,yY,yY,yY,yY,yY,yY,yY,yY,yY,yY,yY,yY,yY,yY,nN,nN,nN,nN,nN,nN,nN,nN,nN] rfl rfl (by kernel_rfl) (fun _ _ _ h => h) (Or.inl ⟨by rfl, ?_⟩) ?_ ?_
        rotate_left
        · intro w'
          go_simp
          with_reducible rfl
        rotate_left
        · simp only [Act.put, List.setIfInBounds_toArray, List.set_cons_zero, List.set_cons_succ, i64_w, i32_w]
          rfl
        refine pure_ (i := 27) (N := some 75) (v := ?_) (a' := ?_) #[yY,yY,yY,yY,yY,yY,yY,yY,yY,yY,yY,yY,yY,yY,yY,yY,yY,yY,yY,yY,yY,yY,yY,yY,yY,yY,yY,yY,nN,nN,nN,nN,nN,nN,nN,nN] rfl rfl (by kernel_rfl) (fun _ _ _ h => h) (Or.inl ⟨by rfl, ?_⟩) ?_ ?_
        rotate_left
        · intro w'
          go_simp
          with_reducible rfl
        rotate_left
        · simp only [Act.put, List.setIfInBounds_toArray, List.set_cons_zero, List.set_cons_succ, i64_w, i32_w]
          rfl
        refine pure_ (i := 28) (N := some 76) (v := ?_) (a' := ?_) #[yY,yY,yY,yY,yY,yY,yY,yY,yY,yY,yY,yY,yY,yY,yY,yY,yY,yY,yY,yY,yY,yY,yY,yY,yY,yY,yY,yY,yY,nN,nN,nN,nN,nN,nN,nN] rfl rfl (by kernel_rfl) (fun _ _ _ h => h) (Or.inl ⟨by rfl, ?_⟩) ?_ ?_
        rotate_left
        · intro w'
          go_simp
          with_reducible rfl
        rotate_left
        · simp only [Act.put, List.setIfInBounds_toArray, List.set_cons_zero, List.set_cons_succ, i64_w, i32_w]
          rfl
        cases h6 : (!b)
        · skip
          refine pure_ (i := 29) (N := some 77) (v := undef) (a' := ?_) #[yY,yY,yY,yY,yY,yY,yY,yY,yY,yY,yY,yY,yY,yY,yY,yY,yY,yY,yY,yY,yY,yY,yY,yY,yY,yY,yY,yY,yY,yY,nN,nN,nN,nN,nN,nN] rfl rfl (by kernel_rfl) (fun _ _ _ h => h) (Or.inr ⟨by rfl, rfl⟩) ?_ ?_
          rotate_left
          · simp only [Act.put, List.setIfInBounds_toArray, List.set_cons_zero, List.set_cons_succ, i64_w, i32_w]
            rfl
          refine pure_ (i := 30) (N := some 78) (v := undef) (a' := ?_) #[yY,yY,yY,yY,yY,yY,yY,yY,yY,yY,yY,yY,yY,yY,yY,yY,yY,yY,yY,yY,yY,yY,yY,yY,yY,yY,yY,yY,yY,yY,yY,nN,nN,nN,nN,nN] rfl rfl (by kernel_rfl) (fun _ _ _ h => h) (Or.inr ⟨by rfl, rfl⟩) ?_ ?_
          rotate_left
          · simp only [Act.put, List.setIfInBounds_toArray, List.set_cons_zero, List.set_cons_succ, i64_w, i32_w]
            rfl
          refine pure_ (i := 31) (N := some 79) (v := undef) (a' := ?_) #[yY,yY,yY,yY,yY,yY,yY,yY,yY,yY,yY,yY,yY,yY,yY,yY,yY,yY,yY,yY,yY,yY,yY,yY,yY,yY,yY,yY,yY,yY,yY,yY,nN,nN,nN,nN] rfl rfl (by kernel_rfl) (fun _ _ _ h => h) (Or.inr ⟨by rfl, rfl⟩) ?_ ?_
          rotate_left
          · simp only [Act.put, List.setIfInBounds_toArray, List.set_cons_zero, List.set_cons_succ, i64_w, i32_w]
            rfl
          refine pure_ (i := 32) (N := some 80) (v := undef) (a' := ?_) #[yY,yY,yY,yY,yY,yY,yY,yY,yY,yY,yY,yY,yY,yY,yY,yY,yY,yY,yY,yY,yY,yY,yY,yY,yY,yY,yY,yY,yY,yY,yY,yY,yY,nN,nN,nN] rfl rfl (by kernel_rfl) (fun _ _ _ h => h) (Or.inr ⟨by rfl, rfl⟩) ?_ ?_
          rotate_left
          · simp only [Act.put, List.setIfInBounds_toArray, List.set_cons_zero, List.set_cons_succ, i64_w, i32_w]
            rfl
          refine pure_ (i := 33) (N := some 81) (v := ?_) (a' := ?_) #[yY,yY,yY,yY,yY,yY,yY,yY,yY,yY,yY,yY,yY,yY,yY,yY,yY,yY,yY,yY,yY,yY,yY,yY,yY,yY,yY,yY,yY,yY,yY,yY,yY,yY,nN,nN] rfl rfl (by kernel_rfl) (fun _ _ _ h => h) (Or.inl ⟨by rfl, ?_⟩) ?_ ?_
          rotate_left
          · intro w'
            go_simp
            with_reducible rfl
          rotate_left
          · simp only [Act.put, List.setIfInBounds_toArray, List.set_cons_zero, List.set_cons_succ, i64_w, i32_w]
            rfl
          refine one_ (i := 34) (N := none) #[yY,yY,yY,yY,yY,yY,yY,yY,yY,yY,yY,yY,yY,yY,yY,yY,yY,yY,yY,yY,yY,yY,yY,yY,yY,yY,yY,yY,yY,yY,yY,yY,yY,yY,yY,nN] rfl rfl (by kernel_rfl) (by decide) (fun K hK => ?_)
          have HBX := HBS
          have HLX := HLS
          have HRX := Lib.hid (blk_below HR0d.out HBX.out)
          have r0 := blk_cell HRX.out 0
          have r1 := blk_cell HRX.out 1
          have r2 := blk_cell HRX.out 2
          have r3 := blk_cell HRX.out 3
          have r4 := blk_cell HRX.out 4
          have rf0 := blk_frozen HRX.out 0
          have rf1 := blk_frozen HRX.out 1
          have rf2 := blk_frozen HRX.out 2
          have rf3 := blk_frozen HRX.out 3
          have rf4 := blk_frozen HRX.out 4
          refine skip_ (w1 := ?_) (by rfl) rfl ?_ ?_
          rotate_left
          · go_simp
            rfl
          refine hK.out _ _ ⟨blk_cell (far5 (blk_below HX0d.out HBX.out) (by omega) _ _ _ _ _) 2, blk_cell (far5 (blk_below HX0d.out HBX.out) (by omega) _ _ _ _ _) 3, blk_cell (far5 (blk_below HX0d.out HBX.out) (by omega) _ _ _ _ _) 4, blk_cell (far5 (blk_below HX0d.out HBX.out) (by omega) _ _ _ _ _) 5, HCV.out _ (below5 (HB1.out.trans (HBX.out.mono HB1.out.size)) (Nat.le_succ _) _ _ _ _ _)⟩ (fun hHeld => ?_)
          clear hK K
          refine pure_ (i := 35) (N := some 3) (v := ?_) (a' := ?_) #[yY,yY,yY,yY,yY,yY,yY,yY,yY,yY,yY,yY,yY,yY,yY,yY,yY,yY,yY,yY,yY,yY,yY,yY,yY,yY,yY,yY,yY,yY,yY,yY,yY,yY,yY,yY] rfl rfl (by kernel_rfl) (fun _ _ _ h => h) (Or.inl ⟨by rfl, ?_⟩) ?_ ?_
          rotate_left
          · intro w'
            go_simp
            with_reducible rfl
          rotate_left
          · simp only [Act.put, List.setIfInBounds_toArray, List.set_cons_zero, List.set_cons_succ, i64_w, i32_w]
            rfl
          refine done_ (by kernel_rfl) ?_
          have HS0 : Hid (w.heap.size + 1 < W1.heap.size) := Lib.hid (blk_lt HR0d.out)
          try go_wp2
          try simp only [Exit.inBlock, Exit.then]
          exact bodyPost_ret (results_ct (p := 2) (u := 3) rfl _ _ _ _ _ _ _ rfl (set5 HRX.out (.int .i64 d.f0) (.int .i64 d.f1) (.bool d.f2) (.slice E3 d.f3.length q3) (.slice E4 d.f4.length q4)) Tryd.underlying33 rfl size33) rfl
            ⟨E3, q3, E4, q4, rfl, lies5 HLX.out HS0.out (by have := HS0.out; omega) _ _ _ _ _, below5 (HB1.out.trans (HBX.out.mono HB1.out.size)) (Nat.le_succ _) _ _ _ _ _⟩
        · skip
          refine pure_ (i := 29) (N := some 77) (v := ?_) (a' := ?_) #[yY,yY,yY,yY,yY,yY,yY,yY,yY,yY,yY,yY,yY,yY,yY,yY,yY,yY,yY,yY,yY,yY,yY,yY,yY,yY,yY,yY,yY,yY,nN,nN,nN,nN,nN,nN] rfl rfl (by kernel_rfl) (fun _ _ _ h => h) (Or.inl ⟨by rfl, ?_⟩) ?_ ?_
          rotate_left
          · intro w'
            go_simp
            with_reducible rfl
          rotate_left
          · simp only [Act.put, List.setIfInBounds_toArray, List.set_cons_zero, List.set_cons_succ, i64_w, i32_w]
            rfl
          refine take_ (i := 30) (N := some 78) (v := ?_) (a' := ?_) #[yY,yY,yY,yY,yY,yY,yY,yY,yY,yY,yY,yY,yY,yY,yY,yY,yY,yY,yY,yY,yY,yY,yY,yY,yY,yY,yY,yY,yY,yY,yY,nN,nN,nN,nN,nN] rfl rfl (by kernel_rfl) (fun _ _ _ h => h) (Or.inl ⟨by rfl, ?_⟩) hHeld ?_ ?_
          rotate_left
          · rintro w' ⟨s0, s1, s2, s3, s4⟩
            go_simp
            with_reducible rfl
          rotate_left
          · simp only [Act.put, List.setIfInBounds_toArray, List.set_cons_zero, List.set_cons_succ, i64_w, i32_w]
            rfl
          refine pure_ (i := 31) (N := some 79) (v := ?_) (a' := ?_) #[yY,yY,yY,yY,yY,yY,yY,yY,yY,yY,yY,yY,yY,yY,yY,yY,yY,yY,yY,yY,yY,yY,yY,yY,yY,yY,yY,yY,yY,yY,yY,yY,nN,nN,nN,nN] rfl rfl (by kernel_rfl) (fun _ _ _ h => h) (Or.inl ⟨by rfl, ?_⟩) ?_ ?_
          rotate_left
          · intro w'
            go_simp
            with_reducible rfl
          rotate_left
          · simp only [Act.put, List.setIfInBounds_toArray, List.set_cons_zero, List.set_cons_succ, i64_w, i32_w]
            rfl
          cases h7 : ((v.length : Int) == 0)
          · skip
            refine pure_ (i := 32) (N := some 80) (v := ?_) (a' := ?_) #[yY,yY,yY,yY,yY,yY,yY,yY,yY,yY,yY,yY,yY,yY,yY,yY,yY,yY,yY,yY,yY,yY,yY,yY,yY,yY,yY,yY,yY,yY,yY,yY,yY,nN,nN,nN] rfl rfl (by kernel_rfl) (fun _ _ _ h => h) (Or.inl ⟨by rfl, ?_⟩) ?_ ?_
            rotate_left
            · intro w'
              go_simp
              with_reducible rfl
            rotate_left
            · simp only [Act.put, List.setIfInBounds_toArray, List.set_cons_zero, List.set_cons_succ, i64_w, i32_w]
              rfl
            refine pure_ (i := 33) (N := some 81) (v := ?_) (a' := ?_) #[yY,yY,yY,yY,yY,yY,yY,yY,yY,yY,yY,yY,yY,yY,yY,yY,yY,yY,yY,yY,yY,yY,yY,yY,yY,yY,yY,yY,yY,yY,yY,yY,yY,yY,nN,nN] rfl rfl (by kernel_rfl) (fun _ _ _ h => h) (Or.inl ⟨by rfl, ?_⟩) ?_ ?_
            rotate_left
            · intro w'
              go_simp
              with_reducible rfl
            rotate_left
            · simp only [Act.put, List.setIfInBounds_toArray, List.set_cons_zero, List.set_cons_succ, i64_w, i32_w]
              rfl
            refine one_ (i := 34) (N := none) #[yY,yY,yY,yY,yY,yY,yY,yY,yY,yY,yY,yY,yY,yY,yY,yY,yY,yY,yY,yY,yY,yY,yY,yY,yY,yY,yY,yY,yY,yY,yY,yY,yY,yY,yY,nN] rfl rfl (by kernel_rfl) (by decide) (fun K hK => ?_)
            have HBX := HBS
            have HLX := HLS
            have HRX := Lib.hid (blk_below HR0d.out HBX.out)
            have r0 := blk_cell HRX.out 0
            have r1 := blk_cell HRX.out 1
            have r2 := blk_cell HRX.out 2
            have r3 := blk_cell HRX.out 3
            have r4 := blk_cell HRX.out 4
            have rf0 := blk_frozen HRX.out 0
            have rf1 := blk_frozen HRX.out 1
            have rf2 := blk_frozen HRX.out 2
            have rf3 := blk_frozen HRX.out 3
            have rf4 := blk_frozen HRX.out 4
            refine skip_ (w1 := ?_) (by rfl) rfl ?_ ?_
            rotate_left
            · go_simp
              rfl
            refine hK.out _ _ ⟨blk_cell (far5 (blk_below HX0d.out HBX.out) (by omega) _ _ _ _ _) 2, blk_cell (far5 (blk_below HX0d.out HBX.out) (by omega) _ _ _ _ _) 3, blk_cell (far5 (blk_below HX0d.out HBX.out) (by omega) _ _ _ _ _) 4, blk_cell (far5 (blk_below HX0d.out HBX.out) (by omega) _ _ _ _ _) 5, HCV.out _ (below5 (HB1.out.trans (HBX.out.mono HB1.out.size)) (Nat.le_succ _) _ _ _ _ _)⟩ (fun hHeld => ?_)
            clear hK K
            refine pure_ (i := 35) (N := some 3) (v := ?_) (a' := ?_) #[yY,yY,yY,yY,yY,yY,yY,yY,yY,yY,yY,yY,yY,yY,yY,yY,yY,yY,yY,yY,yY,yY,yY,yY,yY,yY,yY,yY,yY,yY,yY,yY,yY,yY,yY,yY] rfl rfl (by kernel_rfl) (fun _ _ _ h => h) (Or.inl ⟨by rfl, ?_⟩) ?_ ?_
            rotate_left
            · intro w'
              go_simp
              with_reducible rfl
            rotate_left
            · simp only [Act.put, List.setIfInBounds_toArray, List.set_cons_zero, List.set_cons_succ, i64_w, i32_w]
              rfl
            refine done_ (by kernel_rfl) ?_
            have HS0 : Hid (w.heap.size + 1 < W1.heap.size) := Lib.hid (blk_lt HR0d.out)
            try go_wp2
            try simp only [Exit.inBlock, Exit.then]
            exact bodyPost_ret (results_ct (p := 2) (u := 3) rfl _ _ _ _ _ _ _ rfl (set5 HRX.out (.int .i64 d.f0) (.int .i64 d.f1) (.bool d.f2) (.slice E3 d.f3.length q3) (.slice E4 d.f4.length q4)) Tryd.underlying33 rfl size33) rfl
              ⟨E3, q3, E4, q4, rfl, lies5 HLX.out HS0.out (by have := HS0.out; omega) _ _ _ _ _, below5 (HB1.out.trans (HBX.out.mono HB1.out.size)) (Nat.le_succ _) _ _ _ _ _⟩
          · skip
            refine pure_ (i := 32) (N := some 80) (v := ?_) (a' := ?_) #[yY,yY,yY,yY,yY,yY,yY,yY,yY,yY,yY,yY,yY,yY,yY,yY,yY,yY,yY,yY,yY,yY,yY,yY,yY,yY,yY,yY,yY,yY,yY,yY,yY,nN,nN,nN] rfl rfl (by kernel_rfl) (fun _ _ _ h => h) (Or.inl ⟨by rfl, ?_⟩) ?_ ?_
            rotate_left
            · intro w'
              go_simp
              with_reducible rfl
            rotate_left
            · simp only [Act.put, List.setIfInBounds_toArray, List.set_cons_zero, List.set_cons_succ, i64_w, i32_w]
              rfl
            refine pure_ (i := 33) (N := some 81) (v := ?_) (a' := ?_) #[yY,yY,yY,yY,yY,yY,yY,yY,yY,yY,yY,yY,yY,yY,yY,yY,yY,yY,yY,yY,yY,yY,yY,yY,yY,yY,yY,yY,yY,yY,yY,yY,yY,yY,nN,nN] rfl rfl (by kernel_rfl) (fun _ _ _ h => h) (Or.inl ⟨by rfl, ?_⟩) ?_ ?_
            rotate_left
            · intro w'
              go_simp
              with_reducible rfl
            rotate_left
            · simp only [Act.put, List.setIfInBounds_toArray, List.set_cons_zero, List.set_cons_succ, i64_w, i32_w]
              rfl
            refine one_ (i := 34) (N := none) #[yY,yY,yY,yY,yY,yY,yY,yY,yY,yY,yY,yY,yY,yY,yY,yY,yY,yY,yY,yY,yY,yY,yY,yY,yY,yY,yY,yY,yY,yY,yY,yY,yY,yY,yY,nN] rfl rfl (by kernel_rfl) (by decide) (fun K hK => ?_)
            have HBX := HBS
            have HLX := HLS
            have HRX := Lib.hid (blk_below HR0d.out HBX.out)
            have r0 := blk_cell HRX.out 0
            have r1 := blk_cell HRX.out 1
            have r2 := blk_cell HRX.out 2
            have r3 := blk_cell HRX.out 3
            have r4 := blk_cell HRX.out 4
            have rf0 := blk_frozen HRX.out 0
            have rf1 := blk_frozen HRX.out 1
            have rf2 := blk_frozen HRX.out 2
            have rf3 := blk_frozen HRX.out 3
            have rf4 := blk_frozen HRX.out 4
            refine skip_ (w1 := ?_) (by rfl) rfl ?_ ?_
            rotate_left
            · go_simp
              rfl
            refine hK.out _ _ ⟨blk_cell (far5 (blk_below HX0d.out HBX.out) (by omega) _ _ _ _ _) 2, blk_cell (far5 (blk_below HX0d.out HBX.out) (by omega) _ _ _ _ _) 3, blk_cell (far5 (blk_below HX0d.out HBX.out) (by omega) _ _ _ _ _) 4, blk_cell (far5 (blk_below HX0d.out HBX.out) (by omega) _ _ _ _ _) 5, HCV.out _ (below5 (HB1.out.trans (HBX.out.mono HB1.out.size)) (Nat.le_succ _) _ _ _ _ _)⟩ (fun hHeld => ?_)
            clear hK K
            refine pure_ (i := 35) (N := some 3) (v := ?_) (a' := ?_) #[yY,yY,yY,yY,yY,yY,yY,yY,yY,yY,yY,yY,yY,yY,yY,yY,yY,yY,yY,yY,yY,yY,yY,yY,yY,yY,yY,yY,yY,yY,yY,yY,yY,yY,yY,yY] rfl rfl (by kernel_rfl) (fun _ _ _ h => h) (Or.inl ⟨by rfl, ?_⟩) ?_ ?_
            rotate_left
            · intro w'
              go_simp
              with_reducible rfl
            rotate_left
            · simp only [Act.put, List.setIfInBounds_toArray, List.set_cons_zero, List.set_cons_succ, i64_w, i32_w]
              rfl
            refine done_ (by kernel_rfl) ?_
            have HS0 : Hid (w.heap.size + 1 < W1.heap.size) := Lib.hid (blk_lt HR0d.out)
            try go_wp2
            try simp only [Exit.inBlock, Exit.then]
            exact bodyPost_ret (results_ct (p := 2) (u := 3) rfl _ _ _ _ _ _ _ rfl (set5 HRX.out (.int .i64 d.f0) (.int .i64 d.f1) (.bool d.f2) (.slice E3 d.f3.length q3) (.slice E4 d.f4.length q4)) Tryd.underlying33 rfl size33) rfl
              ⟨E3, q3, E4, q4, rfl, lies5 HLX.out HS0.out (by have := HS0.out; omega) _ _ _ _ _, below5 (HB1.out.trans (HBX.out.mono HB1.out.size)) (Nat.le_succ _) _ _ _ _ _⟩
end Go.Proofs.YtbmcpjkhnhbjdaaDoor.Ber
namespace Go.Proofs.YtbmcpjkhnhbjdaaDoor.PFnEncode
open Go.RowKit Go.Proofs.YtbmcpjkhnhbjdaaDoorW.PrintWords Go.Proofs.YtbmcpjkhnhbjdaaDoorW.PrintLast Go.Proofs.YtbmcpjkhnhbjdaaDoorW.PrintMore
attribute [local go_sem] max2_int min2_int max_two min_two max_three min_three max_four min_four   -- for this text's walks alone
set_option linter.unusedVariables false
set_option linter.unusedSimpArgs false

/-! ### laws_zzFits12: function 91 -/
/-! ### laws_zzFits11: function 65 -/
/-! ### laws_zzFits10: function 55 -/
/-! ### laws_zzFits9: function 21 -/
/-! ### laws_attribute: function 56 -/
/-! ### laws_attributes: function 22 -/
-- NOT PRINTED: function 57 (goldap_NewModifyRequest)

/-! ### impl_texts: function 58 -/
-- NOT PRINTED: function 23 (impl_Modify)

/-! ### spec_Code: function 59 -/
end Go.Proofs.YtbmcpjkhnhbjdaaDoor.PFnEncode
