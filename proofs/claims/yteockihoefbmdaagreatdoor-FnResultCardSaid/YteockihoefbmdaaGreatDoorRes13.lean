/- Parts of the proof of one law, in the order in which they build. impl.Result, impl.Failure. · Plain maths: the message of a result, decoded. · impl.Result and impl.Failure at what laws.plain made. · spec.Message: the packet of a message. · spec.Result: the packet of a response. · laws.short at a list of texts; a row of texts in a block. -/
import Derived.Test.YteockihoefbmdaaGreatDoorRes1
import Derived.Test.YteockihoefbmdaaGreatDoorRes2
import Derived.Test.YteockihoefbmdaaGreatDoorRes3
import Derived.Test.YteockihoefbmdaaGreatDoorRes4
import Derived.Test.YteockihoefbmdaaGreatDoorRes5
import Derived.Test.YteockihoefbmdaaGreatDoorRes6
import Derived.Test.YteockihoefbmdaaGreatDoorRes7
import Derived.Test.YteockihoefbmdaaGreatDoorRes8
import Derived.Test.YteockihoefbmdaaGreatDoorRes9
import Derived.Test.YteockihoefbmdaaGreatDoorRes10
import Derived.Test.YteockihoefbmdaaGreatDoorRes11
import Derived.Test.YteockihoefbmdaaGreatDoorRes12
namespace Go.Proofs.YteockihoefbmdaaGreatDoor.Ber
open Go.RowKit Go.Proofs.YteockihoefbmdaaGreatDoorW.PrintWords Go.Proofs.YteockihoefbmdaaGreatDoorW.PrintLast Go.Proofs.YteockihoefbmdaaGreatDoor.Buf Go.Proofs.YteockihoefbmdaaGreatDoor.Pk Go.Proofs.YteockihoefbmdaaGreatDoor.Tree Go.Proofs.YteockihoefbmdaaGreatDoor.Num Go.Proofs.YteockihoefbmdaaGreatDoor.Ident Go.Proofs.YteockihoefbmdaaGreatDoor.PFnEncode
set_option linter.unusedVariables false
set_option linter.unusedSimpArgs false

theorem ld_int {w : World} {g : Nat} {v : Value} (hc : w.cell? ⟨g, 0, none⟩ = some v) : (loadVar 3 ⟨g, 0, none⟩).run Tryz.prog w = .ok v w := by
  simp [loadVar, run_underlying Tryz.underlying3, hc, go_sem]
theorem ld_str {w : World} {g : Nat} {v : Value} (hc : w.cell? ⟨g, 0, none⟩ = some v) : (loadVar 9 ⟨g, 0, none⟩).run Tryz.prog w = .ok v w := by
  simp [loadVar, run_underlying Tryz.underlying9, hc, go_sem]
theorem results_ccct {P : Program} {fn : Func} {p q r u : Tmp} {tp tq tr : TypeId} (h : fn.results = #[.cell p tp, .cell q tq, .cell r tr, .tmp u]) (tmps : Array Value) (w : World) (g1 g2 g3 : Nat) (v1 v2 v3 : Value)
    (hp : tmps.getD p undef = .pointer (some ⟨g1, 0, none⟩)) (hq : tmps.getD q undef = .pointer (some ⟨g2, 0, none⟩)) (hr : tmps.getD r undef = .pointer (some ⟨g3, 0, none⟩))
    (l1 : (loadVar tp ⟨g1, 0, none⟩).run P w = .ok v1 w) (l2 : (loadVar tq ⟨g2, 0, none⟩).run P w = .ok v2 w) (l3 : (loadVar tr ⟨g3, 0, none⟩).run P w = .ok v3 w) :
    (results fn tmps).run P w = .ok (.tuple #[v1, v2, v3, tmps.getD u undef]) w := by
  have hp' : tmps[p]?.getD undef = .pointer (some ⟨g1, 0, none⟩) := by simpa using hp
  have hq' : tmps[q]?.getD undef = .pointer (some ⟨g2, 0, none⟩) := by simpa using hq
  have hr' : tmps[r]?.getD undef = .pointer (some ⟨g3, 0, none⟩) := by simpa using hr
  simp [results, h, hp', hq', hr', asAddr, l1, l2, l3]
theorem results_cct2 {P : Program} {fn : Func} {p q u : Tmp} {tp tq : TypeId} (h : fn.results = #[.cell p tp, .cell q tq, .tmp u]) (tmps : Array Value) (w : World) (g1 g2 : Nat) (v1 v2 : Value)
    (hp : tmps.getD p undef = .pointer (some ⟨g1, 0, none⟩)) (hq : tmps.getD q undef = .pointer (some ⟨g2, 0, none⟩))
    (l1 : (loadVar tp ⟨g1, 0, none⟩).run P w = .ok v1 w) (l2 : (loadVar tq ⟨g2, 0, none⟩).run P w = .ok v2 w) :
    (results fn tmps).run P w = .ok (.tuple #[v1, v2, tmps.getD u undef]) w := by
  have hp' : tmps[p]?.getD undef = .pointer (some ⟨g1, 0, none⟩) := by simpa using hp
  have hq' : tmps[q]?.getD undef = .pointer (some ⟨g2, 0, none⟩) := by simpa using hq
  simp [results, h, hp', hq', asAddr, l1, l2]
theorem mf : ∀ (fn : Fn) (first cap : Array Value) (w : World), (Instr.makeFunc fn first cap).run Tryz.prog w = .ok (.func fn first cap) w := fun _ _ _ _ => rfl
set_option maxHeartbeats 3200000 in
set_option maxRecDepth 100000 in
theorem result_i (w : World) (p : S30) (A3 : Option Addr) (c3 : Nat) (A4 : Option Addr) (c4 : Nat) {x r c0 c1 c2 : Pk} {code : Int} {ma me : ByteArray} (R : IsRes x r c0 c1 c2 code ma me) (hn : r.kids.length = 3) (h0 : 0 ≤ code) (h1 : code ≤ 65535) (hrd : ∀ W, Below w.heap.size w W → Calls Tryz.prog 30 #[.agg #[.int .i64 p.f0, .int .i64 p.f1, .bool p.f2, .slice A3 p.f3.length c3, .slice A4 p.f4.length c4]] W fun e w' => ∃ b, e = .returned (.pointer (some ⟨b, 0, none⟩)) ∧ Pt w' b x ∧ Below W.heap.size W w') :
    Calls Tryz.prog 25 #[.agg #[.int .i64 p.f0, .int .i64 p.f1, .bool p.f2, .slice A3 p.f3.length c3, .slice A4 p.f4.length c4]] w fun e w' => e = .returned (.tuple #[.int .i64 code, .string ma, .string me, .bool true]) ∧ Below w.heap.size w w' := by
  have hmf := mf
  obtain ⟨W0, hW0⟩ : ∃ W0, W0 = ((((w).alloc (.cells #[.int .i64 p.f0, .int .i64 p.f1, .bool p.f2, .slice A3 p.f3.length c3, .slice A4 p.f4.length c4] 30)).alloc (.cells #[.int .i64 0] 3)).alloc (.cells #[.string ⟨#[]⟩] 9)).alloc (.cells #[.string ⟨#[]⟩] 9) := ⟨_, rfl⟩
  have hs0 : W0.heap.size = w.heap.size + 1 + 1 + 1 + 1 := by rw [hW0]; simp
  have hb0 : Below w.heap.size w W0 := by rw [hW0]; exact below_alloc (below_alloc (below_alloc (below_alloc (Below.refl _ _) _) _) _) _
  have hx0 : W0.heap[w.heap.size]? = some (.cells #[.int .i64 p.f0, .int .i64 p.f1, .bool p.f2, .slice A3 p.f3.length c3, .slice A4 p.f4.length c4] 30 (0, 0)) := by
    have := (blk_alloc (blk_alloc (blk_alloc (blk_new (w) (.cells #[.int .i64 p.f0, .int .i64 p.f1, .bool p.f2, .slice A3 p.f3.length c3, .slice A4 p.f4.length c4] 30)) (.cells #[.int .i64 0] 3)) (.cells #[.string ⟨#[]⟩] 9)) (.cells #[.string ⟨#[]⟩] 9))
    rw [← hW0] at this
    exact this
  have hx1 : W0.heap[w.heap.size + 1]? = some (.cells #[.int .i64 0] 3 (0, 0)) := by
    have := (blk_alloc (blk_alloc (blk_new ((w).alloc (.cells #[.int .i64 p.f0, .int .i64 p.f1, .bool p.f2, .slice A3 p.f3.length c3, .slice A4 p.f4.length c4] 30)) (.cells #[.int .i64 0] 3)) (.cells #[.string ⟨#[]⟩] 9)) (.cells #[.string ⟨#[]⟩] 9))
    have e : ((w).alloc (.cells #[.int .i64 p.f0, .int .i64 p.f1, .bool p.f2, .slice A3 p.f3.length c3, .slice A4 p.f4.length c4] 30)).heap.size = w.heap.size + 1 := by simp
    rw [e, ← hW0] at this
    exact this
  have hx2 : W0.heap[w.heap.size + 1 + 1]? = some (.cells #[.string ⟨#[]⟩] 9 (0, 0)) := by
    have := (blk_alloc (blk_new (((w).alloc (.cells #[.int .i64 p.f0, .int .i64 p.f1, .bool p.f2, .slice A3 p.f3.length c3, .slice A4 p.f4.length c4] 30)).alloc (.cells #[.int .i64 0] 3)) (.cells #[.string ⟨#[]⟩] 9)) (.cells #[.string ⟨#[]⟩] 9))
    have e : (((w).alloc (.cells #[.int .i64 p.f0, .int .i64 p.f1, .bool p.f2, .slice A3 p.f3.length c3, .slice A4 p.f4.length c4] 30)).alloc (.cells #[.int .i64 0] 3)).heap.size = w.heap.size + 1 + 1 := by simp
    rw [e, ← hW0] at this
    exact this
  have hx3 : W0.heap[w.heap.size + 1 + 1 + 1]? = some (.cells #[.string ⟨#[]⟩] 9 (0, 0)) := by
    have := (blk_new ((((w).alloc (.cells #[.int .i64 p.f0, .int .i64 p.f1, .bool p.f2, .slice A3 p.f3.length c3, .slice A4 p.f4.length c4] 30)).alloc (.cells #[.int .i64 0] 3)).alloc (.cells #[.string ⟨#[]⟩] 9)) (.cells #[.string ⟨#[]⟩] 9))
    have e : ((((w).alloc (.cells #[.int .i64 p.f0, .int .i64 p.f1, .bool p.f2, .slice A3 p.f3.length c3, .slice A4 p.f4.length c4] 30)).alloc (.cells #[.int .i64 0] 3)).alloc (.cells #[.string ⟨#[]⟩] 9)).heap.size = w.heap.size + 1 + 1 + 1 := by simp
    rw [e, ← hW0] at this
    exact this
  have hcl : ∀ W, W = W0.alloc (.cells #[.bool false] 4) → Calls Tryz.prog 55 #[.pointer (some ⟨w.heap.size, 0, none⟩), .pointer (some ⟨w.heap.size + 1, 0, none⟩), .pointer (some ⟨w.heap.size + 1 + 1, 0, none⟩), .pointer (some ⟨w.heap.size + 1 + 1 + 1, 0, none⟩)] W fun e w' => e = .returned (.bool true) ∧ ((w'.heap[w.heap.size + 1]? = some (.cells #[.int .i64 code] 3 (0, 0)) ∧ w'.heap[w.heap.size + 1 + 1]? = some (.cells #[.string ma] 9 (0, 0)) ∧ w'.heap[w.heap.size + 1 + 1 + 1]? = some (.cells #[.string me] 9 (0, 0))) ∧ Below w.heap.size w w') ∧ w'.heap[W0.heap.size]? = some (.cells #[.bool false] 4 (0, 0)) := by
    intro W hW
    have hbW : Below w.heap.size w W := by rw [hW]; exact below_alloc hb0 _
    have hsW : W.heap.size = W0.heap.size + 1 := by rw [hW]; simp
    have hbl : W.heap[W0.heap.size]? = some (.cells #[.bool false] 4 (0, 0)) := by rw [hW]; exact blk_new _ _
    have y0 := blk_alloc hx0 (.cells #[.bool false] 4)
    rw [← hW] at y0
    have y1 := blk_alloc hx1 (.cells #[.bool false] 4)
    rw [← hW] at y1
    have y2 := blk_alloc hx2 (.cells #[.bool false] 4)
    rw [← hW] at y2
    have y3 := blk_alloc hx3 (.cells #[.bool false] 4)
    rw [← hW] at y3
    refine (resCl p A3 c3 A4 c4 R hn h0 h1 (hrd W hbW) y0 y1 y2 y3 (by omega)).mono ?_
    rintro e w' ⟨he, q0, q1, q2, ho⟩
    refine ⟨he, ⟨⟨q0, q1, q2⟩, hbW.trans (ho.below hbW.size (fun i hi => by omega))⟩, (ho.block _ (by omega) (by omega)).trans hbl⟩
  have HS := Lib.hid (safely_result #[.pointer (some ⟨w.heap.size, 0, none⟩), .pointer (some ⟨w.heap.size + 1, 0, none⟩), .pointer (some ⟨w.heap.size + 1 + 1, 0, none⟩), .pointer (some ⟨w.heap.size + 1 + 1 + 1, 0, none⟩)] true (fun w' => (w'.heap[w.heap.size + 1]? = some (.cells #[.int .i64 code] 3 (0, 0)) ∧ w'.heap[w.heap.size + 1 + 1]? = some (.cells #[.string ma] 9 (0, 0)) ∧ w'.heap[w.heap.size + 1 + 1 + 1]? = some (.cells #[.string me] 9 (0, 0))) ∧ Below w.heap.size w w') W0 hcl)
  have HS0 := Lib.hid hs0
  have HW0 := Lib.hid hW0
  clear hrd hcl hs0 hb0 hW0 hx0 hx1 hx2 hx3 R hn h0 h1
  go_enter Tryz.func25, Tryz.ntmps25
  go_wp2_with (go_at_call 28
               rw [← HW0.out]
               with_reducible refine HS.out.mono ?_
               rintro e w' ⟨rfl, W1, ⟨⟨g0, g1, g2⟩, hb1⟩, rfl⟩
               have z0 := blk_far g0 (p := ⟨W0.heap.size, 0, none⟩) (by have := HS0.out; show w.heap.size + 1 ≠ W0.heap.size; omega) (.bool true)
               have z1 := blk_far g1 (p := ⟨W0.heap.size, 0, none⟩) (by have := HS0.out; show w.heap.size + 1 + 1 ≠ W0.heap.size; omega) (.bool true)
               have z2 := blk_far g2 (p := ⟨W0.heap.size, 0, none⟩) (by have := HS0.out; show w.heap.size + 1 + 1 + 1 ≠ W0.heap.size; omega) (.bool true)
               have hb2 : Below w.heap.size w (W1.setCell ⟨W0.heap.size, 0, none⟩ (.bool true)) := hb1.setCell (p := ⟨W0.heap.size, 0, none⟩) (by have := HS0.out; show w.heap.size ≤ W0.heap.size; omega) _
               obtain ⟨W2, hW2⟩ : ∃ W2, W2 = W1.setCell ⟨W0.heap.size, 0, none⟩ (.bool true) := ⟨_, rfl⟩
               rw [← hW2] at z0 z1 z2 hb2 ⊢
               have HB2 := Lib.hid hb2
               have HZ0 := Lib.hid z0
               have HZ1 := Lib.hid z1
               have HZ2 := Lib.hid z2
               clear hb1 hb2 hW2 z0 g0 z1 g1 z2 g2)
  refine start_ (n := 7) (S := fun w' => w'.cell? ⟨w.heap.size + 1, 0, none⟩ = some (.int .i64 code) ∧ w'.cell? ⟨w.heap.size + 1 + 1, 0, none⟩ = some (.string ma) ∧ w'.cell? ⟨w.heap.size + 1 + 1 + 1, 0, none⟩ = some (.string me)) (ds := []) #[nN,nN,nN,nN,nN,nN,nN] (by kernel_rfl) rfl rfl ⟨blk_cell HZ0.out 0, blk_cell HZ1.out 0, blk_cell HZ2.out 0⟩ (fun hHeld => ?_)
  refine take_ (i := 0) (N := some 10) (v := ?_) (a' := ?_) #[yY,nN,nN,nN,nN,nN,nN] rfl rfl (by kernel_rfl) (fun _ _ _ h => h) (Or.inl ⟨by rfl, ?_⟩) hHeld ?_ ?_
  rotate_left
  · rintro w' ⟨s0, s1, s2⟩
    go_simp
    with_reducible rfl
  rotate_left
  · simp only [Act.put, List.setIfInBounds_toArray, List.set_cons_zero, List.set_cons_succ, i64_w, i32_w]
    rfl
  refine take_ (i := 1) (N := some 11) (v := ?_) (a' := ?_) #[yY,yY,nN,nN,nN,nN,nN] rfl rfl (by kernel_rfl) (fun _ _ _ h => h) (Or.inl ⟨by rfl, ?_⟩) hHeld ?_ ?_
  rotate_left
  · rintro w' ⟨s0, s1, s2⟩
    go_simp
    with_reducible rfl
  rotate_left
  · simp only [Act.put, List.setIfInBounds_toArray, List.set_cons_zero, List.set_cons_succ, i64_w, i32_w]
    rfl
  refine take_ (i := 2) (N := some 12) (v := ?_) (a' := ?_) #[yY,yY,yY,nN,nN,nN,nN] rfl rfl (by kernel_rfl) (fun _ _ _ h => h) (Or.inl ⟨by rfl, ?_⟩) hHeld ?_ ?_
  rotate_left
  · rintro w' ⟨s0, s1, s2⟩
    go_simp
    with_reducible rfl
  rotate_left
  · simp only [Act.put, List.setIfInBounds_toArray, List.set_cons_zero, List.set_cons_succ, i64_w, i32_w]
    rfl
  refine one_ (i := 3) (N := none) #[yY,yY,yY,yY,nN,nN,nN] rfl rfl (by kernel_rfl) (by decide) (fun K hK => ?_)
  have kc_ := blk_cell HZ0.out 0
  have kf_ := blk_frozen HZ0.out 0
  refine skip_ (w1 := ?_) (by rfl) rfl ?_ ?_
  rotate_left
  · go_simp
    rfl
  clear kc_ kf_
  have HZ0_1 := Lib.hid (blk_set HZ0.out 0 (.int .i64 code))
  have HZ1_1 := Lib.hid (blk_far HZ1.out (p := ⟨w.heap.size + 1, 0, none⟩) (by show w.heap.size + 1 + 1 ≠ w.heap.size + 1; omega) (.int .i64 code))
  have HZ2_1 := Lib.hid (blk_far HZ2.out (p := ⟨w.heap.size + 1, 0, none⟩) (by show w.heap.size + 1 + 1 + 1 ≠ w.heap.size + 1; omega) (.int .i64 code))
  refine hK.out _ _ ⟨blk_cell HZ0_1.out 0, blk_cell HZ1_1.out 0, blk_cell HZ2_1.out 0⟩ (fun hHeld => ?_)
  clear hK K
  refine one_ (i := 4) (N := none) #[yY,yY,yY,yY,yY,nN,nN] rfl rfl (by kernel_rfl) (by decide) (fun K hK => ?_)
  have kc_ := blk_cell HZ1_1.out 0
  have kf_ := blk_frozen HZ1_1.out 0
  refine skip_ (w1 := ?_) (by rfl) rfl ?_ ?_
  rotate_left
  · go_simp
    rfl
  clear kc_ kf_
  have HZ0_2 := Lib.hid (blk_far HZ0_1.out (p := ⟨w.heap.size + 1 + 1, 0, none⟩) (by show w.heap.size + 1 ≠ w.heap.size + 1 + 1; omega) (.string ma))
  have HZ1_2 := Lib.hid (blk_set HZ1_1.out 0 (.string ma))
  have HZ2_2 := Lib.hid (blk_far HZ2_1.out (p := ⟨w.heap.size + 1 + 1, 0, none⟩) (by show w.heap.size + 1 + 1 + 1 ≠ w.heap.size + 1 + 1; omega) (.string ma))
  refine hK.out _ _ ⟨blk_cell HZ0_2.out 0, blk_cell HZ1_2.out 0, blk_cell HZ2_2.out 0⟩ (fun hHeld => ?_)
  clear hK K
  refine one_ (i := 5) (N := none) #[yY,yY,yY,yY,yY,yY,nN] rfl rfl (by kernel_rfl) (by decide) (fun K hK => ?_)
  have kc_ := blk_cell HZ2_2.out 0
  have kf_ := blk_frozen HZ2_2.out 0
  refine skip_ (w1 := ?_) (by rfl) rfl ?_ ?_
  rotate_left
  · go_simp
    rfl
  clear kc_ kf_
  have HZ0_3 := Lib.hid (blk_far HZ0_2.out (p := ⟨w.heap.size + 1 + 1 + 1, 0, none⟩) (by show w.heap.size + 1 ≠ w.heap.size + 1 + 1 + 1; omega) (.string me))
  have HZ1_3 := Lib.hid (blk_far HZ1_2.out (p := ⟨w.heap.size + 1 + 1 + 1, 0, none⟩) (by show w.heap.size + 1 + 1 ≠ w.heap.size + 1 + 1 + 1; omega) (.string me))
  have HZ2_3 := Lib.hid (blk_set HZ2_2.out 0 (.string me))
  refine hK.out _ _ ⟨blk_cell HZ0_3.out 0, blk_cell HZ1_3.out 0, blk_cell HZ2_3.out 0⟩ (fun hHeld => ?_)
  clear hK K
  refine pure_ (i := 6) (N := some 5) (v := ?_) (a' := ?_) #[yY,yY,yY,yY,yY,yY,yY] rfl rfl (by kernel_rfl) (fun _ _ _ h => h) (Or.inl ⟨by rfl, ?_⟩) ?_ ?_
  rotate_left
  · intro w'
    go_simp
    with_reducible rfl
  rotate_left
  · simp only [Act.put, List.setIfInBounds_toArray, List.set_cons_zero, List.set_cons_succ, i64_w, i32_w]
    rfl
  refine done_ (by kernel_rfl) ?_
  go_wp2
  try simp only [Exit.inBlock, Exit.then]
  have l0 := blk_cell HZ0_3.out 0
  have l1 := blk_cell HZ1_3.out 0
  have l2 := blk_cell HZ2_3.out 0
  exact bodyPost_ret (results_ccct rfl _ _ _ _ _ _ _ _  rfl rfl rfl  (ld_int l0) (ld_str l1) (ld_str l2)) rfl ⟨rfl, (((HB2.out.drew.setCell (p := ⟨w.heap.size + 1, 0, none⟩) (by show w.heap.size ≤ w.heap.size + 1; omega) _).setCell (p := ⟨w.heap.size + 1 + 1, 0, none⟩) (by show w.heap.size ≤ w.heap.size + 1 + 1; omega) _).setCell (p := ⟨w.heap.size + 1 + 1 + 1, 0, none⟩) (by show w.heap.size ≤ w.heap.size + 1 + 1 + 1; omega) _)⟩
set_option maxHeartbeats 3200000 in
set_option maxRecDepth 100000 in
theorem failure_some (w : World) (p : S30) (A3 : Option Addr) (c3 : Nat) (A4 : Option Addr) (c4 : Nat) {x r c0 c1 c2 : Pk} {code : Int} {ma me : ByteArray} (R : IsRes x r c0 c1 c2 code ma me) (h0 : 1 ≤ code) (h1 : code ≤ 65535) (hrd : ∀ W, Below w.heap.size w W → Calls Tryz.prog 30 #[.agg #[.int .i64 p.f0, .int .i64 p.f1, .bool p.f2, .slice A3 p.f3.length c3, .slice A4 p.f4.length c4]] W fun e w' => ∃ b, e = .returned (.pointer (some ⟨b, 0, none⟩)) ∧ Pt w' b x ∧ Below W.heap.size W w') :
    Calls Tryz.prog 26 #[.agg #[.int .i64 p.f0, .int .i64 p.f1, .bool p.f2, .slice A3 p.f3.length c3, .slice A4 p.f4.length c4]] w fun e w' => e = .returned (.tuple #[.int .i64 code, .string ma, .bool true]) ∧ Below w.heap.size w w' := by
  have hmf := mf
  obtain ⟨W0, hW0⟩ : ∃ W0, W0 = (((w).alloc (.cells #[.int .i64 p.f0, .int .i64 p.f1, .bool p.f2, .slice A3 p.f3.length c3, .slice A4 p.f4.length c4] 30)).alloc (.cells #[.int .i64 0] 3)).alloc (.cells #[.string ⟨#[]⟩] 9) := ⟨_, rfl⟩
  have hs0 : W0.heap.size = w.heap.size + 1 + 1 + 1 := by rw [hW0]; simp
  have hb0 : Below w.heap.size w W0 := by rw [hW0]; exact below_alloc (below_alloc (below_alloc (Below.refl _ _) _) _) _
  have hx0 : W0.heap[w.heap.size]? = some (.cells #[.int .i64 p.f0, .int .i64 p.f1, .bool p.f2, .slice A3 p.f3.length c3, .slice A4 p.f4.length c4] 30 (0, 0)) := by
    have := (blk_alloc (blk_alloc (blk_new (w) (.cells #[.int .i64 p.f0, .int .i64 p.f1, .bool p.f2, .slice A3 p.f3.length c3, .slice A4 p.f4.length c4] 30)) (.cells #[.int .i64 0] 3)) (.cells #[.string ⟨#[]⟩] 9))
    rw [← hW0] at this
    exact this
  have hx1 : W0.heap[w.heap.size + 1]? = some (.cells #[.int .i64 0] 3 (0, 0)) := by
    have := (blk_alloc (blk_new ((w).alloc (.cells #[.int .i64 p.f0, .int .i64 p.f1, .bool p.f2, .slice A3 p.f3.length c3, .slice A4 p.f4.length c4] 30)) (.cells #[.int .i64 0] 3)) (.cells #[.string ⟨#[]⟩] 9))
    have e : ((w).alloc (.cells #[.int .i64 p.f0, .int .i64 p.f1, .bool p.f2, .slice A3 p.f3.length c3, .slice A4 p.f4.length c4] 30)).heap.size = w.heap.size + 1 := by simp
    rw [e, ← hW0] at this
    exact this
  have hx2 : W0.heap[w.heap.size + 1 + 1]? = some (.cells #[.string ⟨#[]⟩] 9 (0, 0)) := by
    have := (blk_new (((w).alloc (.cells #[.int .i64 p.f0, .int .i64 p.f1, .bool p.f2, .slice A3 p.f3.length c3, .slice A4 p.f4.length c4] 30)).alloc (.cells #[.int .i64 0] 3)) (.cells #[.string ⟨#[]⟩] 9))
    have e : (((w).alloc (.cells #[.int .i64 p.f0, .int .i64 p.f1, .bool p.f2, .slice A3 p.f3.length c3, .slice A4 p.f4.length c4] 30)).alloc (.cells #[.int .i64 0] 3)).heap.size = w.heap.size + 1 + 1 := by simp
    rw [e, ← hW0] at this
    exact this
  have hcl : ∀ W, W = W0.alloc (.cells #[.bool false] 4) → Calls Tryz.prog 57 #[.pointer (some ⟨w.heap.size, 0, none⟩), .pointer (some ⟨w.heap.size + 1, 0, none⟩), .pointer (some ⟨w.heap.size + 1 + 1, 0, none⟩)] W fun e w' => e = .returned (.bool true) ∧ ((w'.heap[w.heap.size + 1]? = some (.cells #[.int .i64 code] 3 (0, 0)) ∧ w'.heap[w.heap.size + 1 + 1]? = some (.cells #[.string ma] 9 (0, 0))) ∧ Below w.heap.size w w') ∧ w'.heap[W0.heap.size]? = some (.cells #[.bool false] 4 (0, 0)) := by
    intro W hW
    have hbW : Below w.heap.size w W := by rw [hW]; exact below_alloc hb0 _
    have hsW : W.heap.size = W0.heap.size + 1 := by rw [hW]; simp
    have hbl : W.heap[W0.heap.size]? = some (.cells #[.bool false] 4 (0, 0)) := by rw [hW]; exact blk_new _ _
    have y0 := blk_alloc hx0 (.cells #[.bool false] 4)
    rw [← hW] at y0
    have y1 := blk_alloc hx1 (.cells #[.bool false] 4)
    rw [← hW] at y1
    have y2 := blk_alloc hx2 (.cells #[.bool false] 4)
    rw [← hW] at y2
    refine (failCl1 p A3 c3 A4 c4 R h0 h1 (hrd W hbW) y0 y1 y2).mono ?_
    rintro e w' ⟨he, q0, q1, ho⟩
    refine ⟨he, ⟨⟨q0, q1⟩, hbW.trans (ho.below hbW.size (fun i hi => by omega))⟩, (ho.block _ (by omega) (by omega)).trans hbl⟩
  have HS := Lib.hid (safely_failure #[.pointer (some ⟨w.heap.size, 0, none⟩), .pointer (some ⟨w.heap.size + 1, 0, none⟩), .pointer (some ⟨w.heap.size + 1 + 1, 0, none⟩)] true (fun w' => (w'.heap[w.heap.size + 1]? = some (.cells #[.int .i64 code] 3 (0, 0)) ∧ w'.heap[w.heap.size + 1 + 1]? = some (.cells #[.string ma] 9 (0, 0))) ∧ Below w.heap.size w w') W0 hcl)
  have HS0 := Lib.hid hs0
  have HW0 := Lib.hid hW0
  clear hrd hcl hs0 hb0 hW0 hx0 hx1 hx2 R h0 h1
  go_enter Tryz.func26, Tryz.ntmps26
  go_wp2_with (go_at_call 28
               rw [← HW0.out]
               with_reducible refine HS.out.mono ?_
               rintro e w' ⟨rfl, W1, ⟨⟨g0, g1⟩, hb1⟩, rfl⟩
               have z0 := blk_far g0 (p := ⟨W0.heap.size, 0, none⟩) (by have := HS0.out; show w.heap.size + 1 ≠ W0.heap.size; omega) (.bool true)
               have z1 := blk_far g1 (p := ⟨W0.heap.size, 0, none⟩) (by have := HS0.out; show w.heap.size + 1 + 1 ≠ W0.heap.size; omega) (.bool true)
               have hb2 : Below w.heap.size w (W1.setCell ⟨W0.heap.size, 0, none⟩ (.bool true)) := hb1.setCell (p := ⟨W0.heap.size, 0, none⟩) (by have := HS0.out; show w.heap.size ≤ W0.heap.size; omega) _
               obtain ⟨W2, hW2⟩ : ∃ W2, W2 = W1.setCell ⟨W0.heap.size, 0, none⟩ (.bool true) := ⟨_, rfl⟩
               rw [← hW2] at z0 z1 hb2 ⊢
               have HB2 := Lib.hid hb2
               have HZ0 := Lib.hid z0
               have HZ1 := Lib.hid z1
               clear hb1 hb2 hW2 z0 g0 z1 g1)
  refine start_ (n := 6) (S := fun w' => w'.cell? ⟨w.heap.size + 1, 0, none⟩ = some (.int .i64 code) ∧ w'.cell? ⟨w.heap.size + 1 + 1, 0, none⟩ = some (.string ma)) (ds := []) #[nN,nN,nN,nN,nN,nN] (by kernel_rfl) rfl rfl ⟨blk_cell HZ0.out 0, blk_cell HZ1.out 0⟩ (fun hHeld => ?_)
  refine pure_ (i := 2) (N := some 9) (v := ?_) (a' := ?_) #[nN,nN,yY,nN,nN,nN] rfl rfl (by kernel_rfl) (fun _ _ _ h => h) (Or.inl ⟨by rfl, ?_⟩) ?_ ?_
  rotate_left
  · intro w'
    go_simp
    with_reducible rfl
  rotate_left
  · simp only [Act.put, List.setIfInBounds_toArray, List.set_cons_zero, List.set_cons_succ, i64_w, i32_w]
    rfl
  refine take_ (i := 0) (N := some 7) (v := ?_) (a' := ?_) #[yY,nN,yY,nN,nN,nN] rfl rfl (by kernel_rfl) (fun _ _ _ h => h) (Or.inl ⟨by rfl, ?_⟩) hHeld ?_ ?_
  rotate_left
  · rintro w' ⟨s0, s1⟩
    go_simp
    with_reducible rfl
  rotate_left
  · simp only [Act.put, List.setIfInBounds_toArray, List.set_cons_zero, List.set_cons_succ, i64_w, i32_w]
    rfl
  refine take_ (i := 1) (N := some 8) (v := ?_) (a' := ?_) #[true, true, true, false, false, false] rfl rfl (by kernel_rfl) (fun _ _ _ h => h) (Or.inl ⟨by rfl, ?_⟩) hHeld ?_ ?_
  rotate_left
  · rintro w' ⟨s0, s1⟩
    go_simp
    with_reducible rfl
  rotate_left
  · simp only [Act.put, List.setIfInBounds_toArray, List.set_cons_zero, List.set_cons_succ, i64_w, i32_w]
    rfl
  refine one_ (i := 3) (N := none) #[true, true, true, true, false, false] rfl rfl (by kernel_rfl) (by decide) (fun K hK => ?_)
  have kc_ := blk_cell HZ0.out 0
  have kf_ := blk_frozen HZ0.out 0
  refine skip_ (w1 := ?_) (by rfl) rfl ?_ ?_
  rotate_left
  · go_simp
    rfl
  clear kc_ kf_
  have HZ0_1 := Lib.hid (blk_set HZ0.out 0 (.int .i64 code))
  have HZ1_1 := Lib.hid (blk_far HZ1.out (p := ⟨w.heap.size + 1, 0, none⟩) (by show w.heap.size + 1 + 1 ≠ w.heap.size + 1; omega) (.int .i64 code))
  refine hK.out _ _ ⟨blk_cell HZ0_1.out 0, blk_cell HZ1_1.out 0⟩ (fun hHeld => ?_)
  clear hK K
  refine one_ (i := 4) (N := none) #[true, true, true, true, true, false] rfl rfl (by kernel_rfl) (by decide) (fun K hK => ?_)
  have kc_ := blk_cell HZ1_1.out 0
  have kf_ := blk_frozen HZ1_1.out 0
  refine skip_ (w1 := ?_) (by rfl) rfl ?_ ?_
  rotate_left
  · go_simp
    rfl
  clear kc_ kf_
  have HZ0_2 := Lib.hid (blk_far HZ0_1.out (p := ⟨w.heap.size + 1 + 1, 0, none⟩) (by show w.heap.size + 1 ≠ w.heap.size + 1 + 1; omega) (.string ma))
  have HZ1_2 := Lib.hid (blk_set HZ1_1.out 0 (.string ma))
  refine hK.out _ _ ⟨blk_cell HZ0_2.out 0, blk_cell HZ1_2.out 0⟩ (fun hHeld => ?_)
  clear hK K
  refine pure_ (i := 5) (N := some 4) (v := ?_) (a' := ?_) #[true, true, true, true, true, true] rfl rfl (by kernel_rfl) (fun _ _ _ h => h) (Or.inl ⟨by rfl, ?_⟩) ?_ ?_
  rotate_left
  · intro w'
    go_simp
    with_reducible rfl
  rotate_left
  · simp only [Act.put, List.setIfInBounds_toArray, List.set_cons_zero, List.set_cons_succ, i64_w, i32_w]
    rfl
  refine done_ (by kernel_rfl) ?_
  go_wp2
  try simp only [Exit.inBlock, Exit.then]
  have l0 := blk_cell HZ0_2.out 0
  have l1 := blk_cell HZ1_2.out 0
  exact bodyPost_ret (results_cct2 rfl _ _ _ _ _ _  rfl rfl  (ld_int l0) (ld_str l1)) rfl ⟨rfl, ((HB2.out.drew.setCell (p := ⟨w.heap.size + 1, 0, none⟩) (by show w.heap.size ≤ w.heap.size + 1; omega) _).setCell (p := ⟨w.heap.size + 1 + 1, 0, none⟩) (by show w.heap.size ≤ w.heap.size + 1 + 1; omega) _)⟩
set_option maxHeartbeats 3200000 in
set_option maxRecDepth 100000 in
theorem failure_none (w : World) (p : S30) (A3 : Option Addr) (c3 : Nat) (A4 : Option Addr) (c4 : Nat) {x r c0 c1 c2 : Pk} {ma me : ByteArray} (R : IsRes x r c0 c1 c2 0 ma me)  (hrd : ∀ W, Below w.heap.size w W → Calls Tryz.prog 30 #[.agg #[.int .i64 p.f0, .int .i64 p.f1, .bool p.f2, .slice A3 p.f3.length c3, .slice A4 p.f4.length c4]] W fun e w' => ∃ b, e = .returned (.pointer (some ⟨b, 0, none⟩)) ∧ Pt w' b x ∧ Below W.heap.size W w') :
    Calls Tryz.prog 26 #[.agg #[.int .i64 p.f0, .int .i64 p.f1, .bool p.f2, .slice A3 p.f3.length c3, .slice A4 p.f4.length c4]] w fun e w' => e = .returned (.tuple #[.int .i64 0, .string ⟨#[]⟩, .bool false]) ∧ Below w.heap.size w w' := by
  have hmf := mf
  obtain ⟨W0, hW0⟩ : ∃ W0, W0 = (((w).alloc (.cells #[.int .i64 p.f0, .int .i64 p.f1, .bool p.f2, .slice A3 p.f3.length c3, .slice A4 p.f4.length c4] 30)).alloc (.cells #[.int .i64 0] 3)).alloc (.cells #[.string ⟨#[]⟩] 9) := ⟨_, rfl⟩
  have hs0 : W0.heap.size = w.heap.size + 1 + 1 + 1 := by rw [hW0]; simp
  have hb0 : Below w.heap.size w W0 := by rw [hW0]; exact below_alloc (below_alloc (below_alloc (Below.refl _ _) _) _) _
  have hx0 : W0.heap[w.heap.size]? = some (.cells #[.int .i64 p.f0, .int .i64 p.f1, .bool p.f2, .slice A3 p.f3.length c3, .slice A4 p.f4.length c4] 30 (0, 0)) := by
    have := (blk_alloc (blk_alloc (blk_new (w) (.cells #[.int .i64 p.f0, .int .i64 p.f1, .bool p.f2, .slice A3 p.f3.length c3, .slice A4 p.f4.length c4] 30)) (.cells #[.int .i64 0] 3)) (.cells #[.string ⟨#[]⟩] 9))
    rw [← hW0] at this
    exact this
  have hx1 : W0.heap[w.heap.size + 1]? = some (.cells #[.int .i64 0] 3 (0, 0)) := by
    have := (blk_alloc (blk_new ((w).alloc (.cells #[.int .i64 p.f0, .int .i64 p.f1, .bool p.f2, .slice A3 p.f3.length c3, .slice A4 p.f4.length c4] 30)) (.cells #[.int .i64 0] 3)) (.cells #[.string ⟨#[]⟩] 9))
    have e : ((w).alloc (.cells #[.int .i64 p.f0, .int .i64 p.f1, .bool p.f2, .slice A3 p.f3.length c3, .slice A4 p.f4.length c4] 30)).heap.size = w.heap.size + 1 := by simp
    rw [e, ← hW0] at this
    exact this
  have hx2 : W0.heap[w.heap.size + 1 + 1]? = some (.cells #[.string ⟨#[]⟩] 9 (0, 0)) := by
    have := (blk_new (((w).alloc (.cells #[.int .i64 p.f0, .int .i64 p.f1, .bool p.f2, .slice A3 p.f3.length c3, .slice A4 p.f4.length c4] 30)).alloc (.cells #[.int .i64 0] 3)) (.cells #[.string ⟨#[]⟩] 9))
    have e : (((w).alloc (.cells #[.int .i64 p.f0, .int .i64 p.f1, .bool p.f2, .slice A3 p.f3.length c3, .slice A4 p.f4.length c4] 30)).alloc (.cells #[.int .i64 0] 3)).heap.size = w.heap.size + 1 + 1 := by simp
    rw [e, ← hW0] at this
    exact this
  have hcl : ∀ W, W = W0.alloc (.cells #[.bool false] 4) → Calls Tryz.prog 57 #[.pointer (some ⟨w.heap.size, 0, none⟩), .pointer (some ⟨w.heap.size + 1, 0, none⟩), .pointer (some ⟨w.heap.size + 1 + 1, 0, none⟩)] W fun e w' => e = .returned (.bool false) ∧ ((w'.heap[w.heap.size + 1]? = some (.cells #[.int .i64 0] 3 (0, 0)) ∧ w'.heap[w.heap.size + 1 + 1]? = some (.cells #[.string ⟨#[]⟩] 9 (0, 0))) ∧ Below w.heap.size w w') ∧ w'.heap[W0.heap.size]? = some (.cells #[.bool false] 4 (0, 0)) := by
    intro W hW
    have hbW : Below w.heap.size w W := by rw [hW]; exact below_alloc hb0 _
    have hsW : W.heap.size = W0.heap.size + 1 := by rw [hW]; simp
    have hbl : W.heap[W0.heap.size]? = some (.cells #[.bool false] 4 (0, 0)) := by rw [hW]; exact blk_new _ _
    have y0 := blk_alloc hx0 (.cells #[.bool false] 4)
    rw [← hW] at y0
    have y1 := blk_alloc hx1 (.cells #[.bool false] 4)
    rw [← hW] at y1
    have y2 := blk_alloc hx2 (.cells #[.bool false] 4)
    rw [← hW] at y2
    refine (failCl0 p A3 c3 A4 c4 (gc := w.heap.size + 1) (gm := w.heap.size + 1 + 1) R (hrd W hbW) y0).mono ?_
    rintro e w' ⟨he, ho⟩
    exact ⟨he, ⟨⟨blk_below y1 ho, blk_below y2 ho⟩, hbW.trans (ho.mono hbW.size)⟩, blk_below hbl ho⟩
  have HS := Lib.hid (safely_failure #[.pointer (some ⟨w.heap.size, 0, none⟩), .pointer (some ⟨w.heap.size + 1, 0, none⟩), .pointer (some ⟨w.heap.size + 1 + 1, 0, none⟩)] false (fun w' => (w'.heap[w.heap.size + 1]? = some (.cells #[.int .i64 0] 3 (0, 0)) ∧ w'.heap[w.heap.size + 1 + 1]? = some (.cells #[.string ⟨#[]⟩] 9 (0, 0))) ∧ Below w.heap.size w w') W0 hcl)
  have HS0 := Lib.hid hs0
  have HW0 := Lib.hid hW0
  clear hrd hcl hs0 hb0 hW0 hx0 hx1 hx2 R
  go_enter Tryz.func26, Tryz.ntmps26
  go_wp2_with (go_at_call 28
               rw [← HW0.out]
               with_reducible refine HS.out.mono ?_
               rintro e w' ⟨rfl, W1, ⟨⟨g0, g1⟩, hb1⟩, rfl⟩
               have z0 := blk_far g0 (p := ⟨W0.heap.size, 0, none⟩) (by have := HS0.out; show w.heap.size + 1 ≠ W0.heap.size; omega) (.bool false)
               have z1 := blk_far g1 (p := ⟨W0.heap.size, 0, none⟩) (by have := HS0.out; show w.heap.size + 1 + 1 ≠ W0.heap.size; omega) (.bool false)
               have hb2 : Below w.heap.size w (W1.setCell ⟨W0.heap.size, 0, none⟩ (.bool false)) := hb1.setCell (p := ⟨W0.heap.size, 0, none⟩) (by have := HS0.out; show w.heap.size ≤ W0.heap.size; omega) _
               obtain ⟨W2, hW2⟩ : ∃ W2, W2 = W1.setCell ⟨W0.heap.size, 0, none⟩ (.bool false) := ⟨_, rfl⟩
               rw [← hW2] at z0 z1 hb2 ⊢
               have HB2 := Lib.hid hb2
               have HZ0 := Lib.hid z0
               have HZ1 := Lib.hid z1
               clear hb1 hb2 hW2 z0 g0 z1 g1)
  refine start_ (n := 6) (S := fun w' => w'.cell? ⟨w.heap.size + 1, 0, none⟩ = some (.int .i64 0) ∧ w'.cell? ⟨w.heap.size + 1 + 1, 0, none⟩ = some (.string ⟨#[]⟩)) (ds := []) #[nN,nN,nN,nN,nN,nN] (by kernel_rfl) rfl rfl ⟨blk_cell HZ0.out 0, blk_cell HZ1.out 0⟩ (fun hHeld => ?_)
  refine pure_ (i := 2) (N := some 9) (v := ?_) (a' := ?_) #[nN,nN,yY,nN,nN,nN] rfl rfl (by kernel_rfl) (fun _ _ _ h => h) (Or.inl ⟨by rfl, ?_⟩) ?_ ?_
  rotate_left
  · intro w'
    go_simp
    with_reducible rfl
  rotate_left
  · simp only [Act.put, List.setIfInBounds_toArray, List.set_cons_zero, List.set_cons_succ, i64_w, i32_w]
    rfl
  refine take_ (i := 0) (N := some 7) (v := ?_) (a' := ?_) #[yY,nN,yY,nN,nN,nN] rfl rfl (by kernel_rfl) (fun _ _ _ h => h) (Or.inl ⟨by rfl, ?_⟩) hHeld ?_ ?_
  rotate_left
  · rintro w' ⟨s0, s1⟩
    go_simp
    with_reducible rfl
  rotate_left
  · simp only [Act.put, List.setIfInBounds_toArray, List.set_cons_zero, List.set_cons_succ, i64_w, i32_w]
    rfl
  refine take_ (i := 1) (N := some 8) (v := ?_) (a' := ?_) #[true, true, true, false, false, false] rfl rfl (by kernel_rfl) (fun _ _ _ h => h) (Or.inl ⟨by rfl, ?_⟩) hHeld ?_ ?_
  rotate_left
  · rintro w' ⟨s0, s1⟩
    go_simp
    with_reducible rfl
  rotate_left
  · simp only [Act.put, List.setIfInBounds_toArray, List.set_cons_zero, List.set_cons_succ, i64_w, i32_w]
    rfl
  refine one_ (i := 3) (N := none) #[true, true, true, true, false, false] rfl rfl (by kernel_rfl) (by decide) (fun K hK => ?_)
  have kc_ := blk_cell HZ0.out 0
  have kf_ := blk_frozen HZ0.out 0
  refine skip_ (w1 := ?_) (by rfl) rfl ?_ ?_
  rotate_left
  · go_simp
    rfl
  clear kc_ kf_
  have HZ0_1 := Lib.hid (blk_set HZ0.out 0 (.int .i64 0))
  have HZ1_1 := Lib.hid (blk_far HZ1.out (p := ⟨w.heap.size + 1, 0, none⟩) (by show w.heap.size + 1 + 1 ≠ w.heap.size + 1; omega) (.int .i64 0))
  refine hK.out _ _ ⟨blk_cell HZ0_1.out 0, blk_cell HZ1_1.out 0⟩ (fun hHeld => ?_)
  clear hK K
  refine one_ (i := 4) (N := none) #[true, true, true, true, true, false] rfl rfl (by kernel_rfl) (by decide) (fun K hK => ?_)
  have kc_ := blk_cell HZ1_1.out 0
  have kf_ := blk_frozen HZ1_1.out 0
  refine skip_ (w1 := ?_) (by rfl) rfl ?_ ?_
  rotate_left
  · go_simp
    rfl
  clear kc_ kf_
  have HZ0_2 := Lib.hid (blk_far HZ0_1.out (p := ⟨w.heap.size + 1 + 1, 0, none⟩) (by show w.heap.size + 1 ≠ w.heap.size + 1 + 1; omega) (.string ⟨#[]⟩))
  have HZ1_2 := Lib.hid (blk_set HZ1_1.out 0 (.string ⟨#[]⟩))
  refine hK.out _ _ ⟨blk_cell HZ0_2.out 0, blk_cell HZ1_2.out 0⟩ (fun hHeld => ?_)
  clear hK K
  refine pure_ (i := 5) (N := some 4) (v := ?_) (a' := ?_) #[true, true, true, true, true, true] rfl rfl (by kernel_rfl) (fun _ _ _ h => h) (Or.inl ⟨by rfl, ?_⟩) ?_ ?_
  rotate_left
  · intro w'
    go_simp
    with_reducible rfl
  rotate_left
  · simp only [Act.put, List.setIfInBounds_toArray, List.set_cons_zero, List.set_cons_succ, i64_w, i32_w]
    rfl
  refine done_ (by kernel_rfl) ?_
  go_wp2
  try simp only [Exit.inBlock, Exit.then]
  have l0 := blk_cell HZ0_2.out 0
  have l1 := blk_cell HZ1_2.out 0
  exact bodyPost_ret (results_cct2 rfl _ _ _ _ _ _  rfl rfl  (ld_int l0) (ld_str l1)) rfl ⟨rfl, ((HB2.out.drew.setCell (p := ⟨w.heap.size + 1, 0, none⟩) (by show w.heap.size ≤ w.heap.size + 1; omega) _).setCell (p := ⟨w.heap.size + 1 + 1, 0, none⟩) (by show w.heap.size ≤ w.heap.size + 1 + 1; omega) _)⟩
end Go.Proofs.YteockihoefbmdaaGreatDoor.Ber
namespace Go.Proofs.YteockihoefbmdaaGreatDoor.Ber
open Go.RowKit Go.Proofs.YteockihoefbmdaaGreatDoorW.PrintWords Go.Proofs.YteockihoefbmdaaGreatDoorW.PrintLast Go.Proofs.YteockihoefbmdaaGreatDoor.Buf Go.Proofs.YteockihoefbmdaaGreatDoor.Pk Go.Proofs.YteockihoefbmdaaGreatDoor.Tree Go.Proofs.YteockihoefbmdaaGreatDoor.Num Go.Proofs.YteockihoefbmdaaGreatDoor.Ident Go.Proofs.YteockihoefbmdaaGreatDoor.PFnEncode Go.Proofs.YteockihoefbmdaaGreatDoor.Within
set_option linter.unusedVariables false
set_option linter.unusedSimpArgs false

/-- the message of a result -/
def resT (id tag code : Int) (ma me : ByteArray) : S34 := msgT id (tOp tag [tC code, tO ma, tO me]) []
theorem resT_fine (id tag code : Int) (ma me : ByteArray) (hid : -9223372036854775808 ≤ id ∧ id ≤ 9223372036854775807) (ht : 0 ≤ tag ∧ tag < 268435456) (hc : -9223372036854775808 ≤ code ∧ code ≤ 9223372036854775807) (h1 : ma.size ≤ 1000) (h2 : me.size ≤ 1000) : Fine5 (resT id tag code ma me) := by
  have w1 := whole_lens id hid
  have w2 := whole_lens code hc
  have b1 := bytesOf_length ma
  have b2 := bytesOf_length me
  refine ⟨?_, ?_, ?_, ?_, ?_⟩
  · simp [resT, msgT, tL, tOp, tC, tO, good, goodL, ht.1, ht.2]
  · simp only [resT, msgT, tL, tOp, tC, tO, tsize, tsizeL, List.isEmpty_nil, if_true, List.append_nil, List.length_nil, b1, b2]
    omega
  · simp [resT, msgT, tL, tOp, tC, tO, dpx, dpxL]
  · simp [resT, msgT, tL, tOp, tC, tO, kp, kpL, w1, w2]
  · simp only [resT, msgT, tL, tOp, tC, tO, pl, plL, inB, inBL, List.isEmpty_nil, if_true, List.append_nil]
    exact ⟨fun y hy => absurd hy List.not_mem_nil, ⟨whole_in id, trivial⟩, ⟨fun y hy => absurd hy List.not_mem_nil, ⟨whole_in code, trivial⟩, ⟨bo_in ma, trivial⟩, ⟨bo_in me, trivial⟩, trivial⟩, trivial⟩
theorem resT_is (id tag code : Int) (ma me : ByteArray) (hc : -9223372036854775808 ≤ code ∧ code ≤ 9223372036854775807) :
    IsRes (rdPk (resT id tag code ma me)) (rdPk (tOp tag [tC code, tO ma, tO me])) (rdPk (tC code)) (rdPk (tO ma)) (rdPk (tO me)) code ma me ∧ (rdPk (tOp tag [tC code, tO ma, tO me])).kids.length = 3 := by
  have e : valOf 10 (whole code) = .iface 2 (.int .i64 code) := by simp [valOf, sv_whole code hc]
  have e1 : valOf 4 (bytesOf ma) = strV ma := by simp [valOf, so_bo]
  have e2 : valOf 4 (bytesOf me) = strV me := by simp [valOf, so_bo]
  refine ⟨⟨?_, ?_, ?_, ?_, ?_, ?_, ?_, ?_, ?_, ?_, ?_, ?_, ?_, ?_, ?_⟩, ?_⟩ <;> simp [resT, msgT, tL, tOp, tC, tO, rdPk, rdL, e, e1, e2]
end Go.Proofs.YteockihoefbmdaaGreatDoor.Ber
namespace Go.Proofs.YteockihoefbmdaaGreatDoor.Ber
open Go.RowKit Go.Proofs.YteockihoefbmdaaGreatDoorW.PrintWords Go.Proofs.YteockihoefbmdaaGreatDoorW.PrintLast Go.Proofs.YteockihoefbmdaaGreatDoor.Buf Go.Proofs.YteockihoefbmdaaGreatDoor.Pk Go.Proofs.YteockihoefbmdaaGreatDoor.Tree Go.Proofs.YteockihoefbmdaaGreatDoor.Num Go.Proofs.YteockihoefbmdaaGreatDoor.Ident Go.Proofs.YteockihoefbmdaaGreatDoor.PFnEncode Go.Proofs.YteockihoefbmdaaGreatDoor.Within
set_option linter.unusedVariables false
set_option linter.unusedSimpArgs false

section
variable {x r c0 c1 c2 : Pk} {code : Int} {ma me : ByteArray}
theorem result_x (x : S34) (F : Fine5 x) {r c0 c1 c2 : Pk} {code : Int} {ma me : ByteArray} (R : IsRes (rdPk x) r c0 c1 c2 code ma me) (hn : r.kids.length = 3) (h0 : 0 ≤ code) (h1 : code ≤ 65535) (w : World) (A3 : Option Addr) (c3 : Nat) (A4 : Option Addr) (c4 : Nat) (h3 : B8.C w A3 x.f3.length x.f3) (h4 : k30.C w A4 (plL x.f4).length (plL x.f4)) (va ua : Addr) (hE : EofAt w va ua) :
    Calls Tryz.prog 25 #[.agg #[.int .i64 x.f0, .int .i64 x.f1, .bool x.f2, .slice A3 x.f3.length c3, .slice A4 (plL x.f4).length c4]] w fun e w' => e = .returned (.tuple #[.int .i64 code, .string ma, .string me, .bool true]) ∧ Below w.heap.size w w' := by
  have key := result_i w (pl x) A3 c3 A4 c4 (x := rdPk x) R hn h0 h1 (fun W hW => by
    rw [pl_f0, pl_f1, pl_f2, pl_f3, pl_f4]
    exact read_pl x F w W A3 c3 A4 c4 h3 h4 hW va ua (eof_below hE hW))
  rw [pl_f0, pl_f1, pl_f2, pl_f3, pl_f4] at key
  exact key
theorem failure_x1 (x : S34) (F : Fine5 x) {r c0 c1 c2 : Pk} {code : Int} {ma me : ByteArray} (R : IsRes (rdPk x) r c0 c1 c2 code ma me) (h0 : 1 ≤ code) (h1 : code ≤ 65535) (w : World) (A3 : Option Addr) (c3 : Nat) (A4 : Option Addr) (c4 : Nat) (h3 : B8.C w A3 x.f3.length x.f3) (h4 : k30.C w A4 (plL x.f4).length (plL x.f4)) (va ua : Addr) (hE : EofAt w va ua) :
    Calls Tryz.prog 26 #[.agg #[.int .i64 x.f0, .int .i64 x.f1, .bool x.f2, .slice A3 x.f3.length c3, .slice A4 (plL x.f4).length c4]] w fun e w' => e = .returned (.tuple #[.int .i64 code, .string ma, .bool true]) ∧ Below w.heap.size w w' := by
  have key := failure_some w (pl x) A3 c3 A4 c4 (x := rdPk x) R h0 h1 (fun W hW => by
    rw [pl_f0, pl_f1, pl_f2, pl_f3, pl_f4]
    exact read_pl x F w W A3 c3 A4 c4 h3 h4 hW va ua (eof_below hE hW))
  rw [pl_f0, pl_f1, pl_f2, pl_f3, pl_f4] at key
  exact key
theorem failure_x0 (x : S34) (F : Fine5 x) {r c0 c1 c2 : Pk} {ma me : ByteArray} (R : IsRes (rdPk x) r c0 c1 c2 0 ma me) (w : World) (A3 : Option Addr) (c3 : Nat) (A4 : Option Addr) (c4 : Nat) (h3 : B8.C w A3 x.f3.length x.f3) (h4 : k30.C w A4 (plL x.f4).length (plL x.f4)) (va ua : Addr) (hE : EofAt w va ua) :
    Calls Tryz.prog 26 #[.agg #[.int .i64 x.f0, .int .i64 x.f1, .bool x.f2, .slice A3 x.f3.length c3, .slice A4 (plL x.f4).length c4]] w fun e w' => e = .returned (.tuple #[.int .i64 0, .string ⟨#[]⟩, .bool false]) ∧ Below w.heap.size w w' := by
  have key := failure_none w (pl x) A3 c3 A4 c4 (x := rdPk x) R (fun W hW => by
    rw [pl_f0, pl_f1, pl_f2, pl_f3, pl_f4]
    exact read_pl x F w W A3 c3 A4 c4 h3 h4 hW va ua (eof_below hE hW))
  rw [pl_f0, pl_f1, pl_f2, pl_f3, pl_f4] at key
  exact key
end
end Go.Proofs.YteockihoefbmdaaGreatDoor.Ber
namespace Go.Proofs.YteockihoefbmdaaGreatDoor.Ber
open Go.RowKit Go.Proofs.YteockihoefbmdaaGreatDoorW.PrintWords Go.Proofs.YteockihoefbmdaaGreatDoor.PFnEncode Go.Proofs.YteockihoefbmdaaGreatDoorW.PrintLast Go.Proofs.YteockihoefbmdaaGreatDoor.Tree Go.Proofs.YteockihoefbmdaaGreatDoor.Buf Go.Proofs.YteockihoefbmdaaGreatDoor.Pk Go.Proofs.YteockihoefbmdaaGreatDoor.Within Go.Proofs.YteockihoefbmdaaGreatDoor.Num
set_option linter.unusedVariables false
set_option linter.unusedSimpArgs false

theorem LiesO.fk {ok : Nat → Prop} {W : World} {x : S34} {A3 : Option Addr} {c3 : Nat} {A4 : Option Addr} {c4 : Nat} (h : LiesO ok W x A3 c3 A4 c4) : Kd.FK k34 W ok x (cellsP x A3 c3 A4 c4) := k34_mkF W _ x h.1 h.2.1 h.2.2.1 h.2.2.2
/-- two elements, in a block -/
theorem N_two {α : Type} {d : Kd α} {e : Nat} {W : World} {n base : Nat} {ok : Nat → Prop} {x y : α} {c1 c2 : List Value} (hbl : W.heap[n]? = some (.cells (c1 ++ c2).toArray e (0, 0))) (hb : base ≤ n) (hok : ok n) (hx : Kd.FK d W (fun k => ok k ∧ k ≠ n) x c1) (hy : Kd.FK d W (fun k => ok k ∧ k ≠ n) y c2) : Kd.N d e W base ok (.slice (some ⟨n, 0, none⟩) 2 2) [x, y] := by
  have hlen1 := d.K_len (Kd.FK_now hx)
  have hone1 := d.K_one (Kd.FK_now hx)
  have hlen2 := d.K_len (Kd.FK_now hy)
  have hone2 := d.K_one (Kd.FK_now hy)
  have hl2 : (c1 ++ c2).length = 2 * d.sz := by rw [List.length_append, hlen1, hlen2]; omega
  have away : ∀ k, (ok k ∧ k ≠ n) → ok k ∧ some k ≠ (Value.slice (some ⟨n, 0, none⟩) 2 2).ownBlock := fun k hk => ⟨hk.1, fun he => by
    have : k = n := by simpa [Value.ownBlock] using he
    exact hk.2 this⟩
  refine ⟨fun k hk => ?_, [c1, c2], rfl, ⟨fun k hk => hk.symm, c1 ++ c2, ?_, ?_⟩, fun j y' c' h1 h2 => ?_⟩
  · have : n = k := by simpa [Value.ownBlock] using hk
    rw [← this]
    exact hok
  · exact ⟨hl2, .inr ⟨n, 2, _, rfl, hb, hbl, Nat.le_refl _, by unfold maxLen; omega, by show (c1 ++ c2).toArray.size = 2 * d.sz; simpa using hl2, by rw [List.toList_toArray]; exact List.take_of_length_le (by rw [hl2]; exact Nat.le_refl _)⟩⟩
  · exact Reps.snoc (Reps.snoc (Reps.none _ d.sz) (p := c1) ⟨rfl, hlen1, hone1⟩ hlen1) (p := c2) ⟨rfl, hlen2, hone2⟩ hlen2
  · rcases j with _ | _ | j
    · have e1 : x = y' := by simpa using h1
      have e2 : c1 = c' := by simpa using h2
      subst e1
      subst e2
      exact Kd.FK_mono hx away
    · have e1 : y = y' := by simpa using h1
      have e2 : c2 = c' := by simpa using h2
      subst e1
      subst e2
      exact Kd.FK_mono hy away
    · simp at h1
/-- the result's block holds it -/
theorem msg_end {w W : World} {g base : Nat} {v : Value} {l : List S34} (hb : Below w.heap.size w W) (hN : Kd.N k34 34 W base (fun k => k ≠ w.heap.size + 1 ∧ k ≠ g) v l) (A : Option Addr) (c : Nat) (hv : v = .slice A l.length c) (hc : l.length ≤ c) :
    Got w (tL l) (.returned (.agg #[.int .i64 0, .int .i64 16, .bool true, .slice none 0 0, .slice A l.length c])) (((((W.setCell ⟨w.heap.size + 1, 0, none⟩ (.int .i64 0)).setCell ⟨w.heap.size + 1, 1, none⟩ (.int .i64 16)).setCell ⟨w.heap.size + 1, 2, none⟩ (.bool true)).setCell ⟨w.heap.size + 1, 3, none⟩ (.slice none 0 0)).setCell ⟨w.heap.size + 1, 4, none⟩ (.slice A l.length c)) := by
  subst hv
  obtain ⟨A', c', he, _, _⟩ := Kd.N_reads hN
  injection he with h1 h2 h3
  subst h1
  subst h3
  refine ⟨none, 0, A, c, rfl, Nat.le_refl _, Kd.C_nil _ _, hc, ?_, below5 hb (Nat.le_succ _) _ _ _ _ _⟩
  exact Kd.F_now (Kd.F_step (Kd.N_F hN) (fun k hk _ => heap5 hk.1 _ _ _ _ _))
set_option maxHeartbeats 3200000 in
set_option maxRecDepth 100000 in
theorem sMsg_any (id : Int) (hid : -9223372036854775808 ≤ id ∧ id ≤ 9223372036854775807) (x : S34) (A3 : Option Addr) (c3 : Nat) (A4 : Option Addr) (c4 : Nat) (ss : List S34) (A5 : Option Addr) (c5 : Nat) (w : World)
    (l3 : x.f3.length ≤ c3) (h3 : (Kd.int .u8).C w A3 x.f3.length x.f3) (l4 : x.f4.length ≤ c4) (h4 : k34.C w A4 x.f4.length x.f4) (l5 : ss.length ≤ c5) (h5 : k34.C w A5 ss.length ss) :
    Calls Tryz.prog 11 #[.int .i64 id, .agg #[.int .i64 x.f0, .int .i64 x.f1, .bool x.f2, .slice A3 x.f3.length c3, .slice A4 x.f4.length c4], .slice A5 ss.length c5] w (Got w (msgT id x ss)) := by
  have HLX0 : Hid (LiesO (fun k => k < w.heap.size) w x A3 c3 A4 c4) := Lib.hid ⟨l3, Kd.C_F (Kd.heap_int .u8) h3, l4, Kd.C_F k34_heap h4⟩
  have HSS0 : Hid (Kd.F k34 w (fun k => k < w.heap.size) A5 ss.length ss) := Lib.hid (Kd.C_F k34_heap h5)
  have HL5 := Lib.hid l5
  obtain ⟨x1, hx1⟩ : ∃ x1 : S34, x1 = ⟨0, 2, false, whole id, []⟩ := ⟨_, rfl⟩
  have HNU : Hid (∀ W, Calls Tryz.prog 35 #[.int .i64 id] W (Nw W.heap.size W x1)) := Lib.hid (fun W => by rw [hx1]; exact number_nw id hid W)
  have HM : Hid (msgT id x ss = tL ([x1, x] ++ (if ss.isEmpty then [] else [⟨2, 0, true, [], ss⟩]))) := Lib.hid (by rw [hx1]; rfl)
  obtain ⟨y, hy⟩ : ∃ y, y = msgT id x ss := ⟨_, rfl⟩
  rw [← hy] at HM ⊢
  obtain ⟨W0, hW0⟩ : ∃ W0, W0 = (w.alloc (.cells #[.int .i64 x.f0, .int .i64 x.f1, .bool x.f2, .slice A3 x.f3.length c3, .slice A4 x.f4.length c4] 34)).alloc (.cells #[.int .i64 0, .int .i64 0, .bool false, .slice none 0 0, .slice none 0 0] 34) := ⟨_, rfl⟩
  have hb0 : Below w.heap.size w W0 := by rw [hW0]; exact below_alloc (below_alloc (Below.refl _ _) _) _
  have HB0 := Lib.hid hb0
  have HX0 : Hid (W0.heap[w.heap.size]? = some (.cells #[.int .i64 x.f0, .int .i64 x.f1, .bool x.f2, .slice A3 x.f3.length c3, .slice A4 x.f4.length c4] 34 (0, 0))) := Lib.hid (by rw [hW0]; exact blk_alloc (blk_new _ _) _)
  have HR0 : Hid (W0.heap[w.heap.size + 1]? = some (.cells #[.int .i64 0, .int .i64 0, .bool false, .slice none 0 0, .slice none 0 0] 34 (0, 0))) := Lib.hid (by rw [hW0]; exact two_new _ _ _ _ _)
  have HS1 : Hid (w.heap.size + 1 < W0.drew.heap.size) := Lib.hid (blk_lt HR0.out)
  have HW0 := Lib.hid hW0
  have HB1 : Hid (Below w.heap.size w W0.drew) := Lib.hid hb0.drew
  have HX0d : Hid (W0.drew.heap[w.heap.size]? = some (.cells #[.int .i64 x.f0, .int .i64 x.f1, .bool x.f2, .slice A3 x.f3.length c3, .slice A4 x.f4.length c4] 34 (0, 0))) := Lib.hid HX0.out
  have HR0d : Hid (W0.drew.heap[w.heap.size + 1]? = some (.cells #[.int .i64 0, .int .i64 0, .bool false, .slice none 0 0, .slice none 0 0] 34 (0, 0))) := Lib.hid HR0.out
  have HBR : Hid (Below W0.drew.heap.size W0.drew W0.drew) := Lib.hid (Below.refl _ _)
  have HLX : Hid (LiesO (fun k => k < w.heap.size) W0.drew x A3 c3 A4 c4) := Lib.hid (HLX0.out.below hb0.drew)
  clear hy hx1 hid l3 h3 l4 h4 l5 h5 hW0 hb0 HLX0
  go_enter Tryz.func11, Tryz.ntmps11
  go_upto_region 1 with fail
  rw [← HW0.out]
  refine start_ (n := 7) (S := fun w' => w'.cell? ⟨w.heap.size, 0, none⟩ = some (.int .i64 x.f0) ∧ w'.cell? ⟨w.heap.size, 1, none⟩ = some (.int .i64 x.f1) ∧ w'.cell? ⟨w.heap.size, 2, none⟩ = some (.bool x.f2) ∧ w'.cell? ⟨w.heap.size, 3, none⟩ = some (.slice A3 x.f3.length c3) ∧ w'.cell? ⟨w.heap.size, 4, none⟩ = some (.slice A4 x.f4.length c4)) (ds := []) #[nN,nN,nN,nN,nN,nN,nN] (by kernel_rfl) rfl rfl ⟨blk_cell (HX0d.out) 0, blk_cell (HX0d.out) 1, blk_cell (HX0d.out) 2, blk_cell (HX0d.out) 3, blk_cell (HX0d.out) 4⟩ (fun hHeld => ?_)
  obtain ⟨W1, hW1⟩ : ∃ W1, W1 = W0.drew := ⟨_, rfl⟩
  rw [← hW1] at HB1 HX0d HR0d HBR HS1 HLX hHeld ⊢
  clear hW1
  refine pure_ (i := 0) (N := some 8) (v := ?_) (a' := ?_) #[yY,nN,nN,nN,nN,nN,nN] rfl rfl (by kernel_rfl) (fun _ _ _ h => h) (Or.inl ⟨by rfl, ?_⟩) ?_ ?_
  rotate_left
  · intro w'
    go_simp
    with_reducible rfl
  rotate_left
  · simp only [Act.put, List.setIfInBounds_toArray, List.set_cons_zero, List.set_cons_succ, i64_w, i32_w]
    rfl
  refine take_ (i := 2) (N := some 10) (v := ?_) (a' := ?_) #[yY,nN,yY,nN,nN,nN,nN] rfl rfl (by kernel_rfl) (fun _ _ _ h => h) (Or.inl ⟨by rfl, ?_⟩) hHeld ?_ ?_
  rotate_left
  · rintro w' ⟨s0, s1, s2, s3, s4⟩
    go_simp
    with_reducible rfl
  rotate_left
  · simp only [Act.put, List.setIfInBounds_toArray, List.set_cons_zero, List.set_cons_succ, i64_w, i32_w]
    rfl
  refine join_ (σ := Option Addr × Nat × Option Addr × Nat × Nat × Nat) 1 #[yY,yY,yY,yY,yY,yY,nN] (fun z => [(9, .agg #[.int .i64 x1.f0, .int .i64 x1.f1, .bool x1.f2, .slice z.1 x1.f3.length z.2.1, .slice z.2.2.1 x1.f4.length z.2.2.2.1]), (11, .slice (some ⟨z.2.2.2.2.1, 0, none⟩) 2 2), (12, .agg #[.int .i64 0, .int .i64 16, .bool true, .slice none 0 0, .slice (some ⟨z.2.2.2.2.1, 0, none⟩) 2 2]), (7, .pointer (some ⟨z.2.2.2.2.2, 0, none⟩))]) (fun z w' => Below W1.heap.size W1 w' ∧ LiesO (fun k => W1.heap.size ≤ k ∧ k ≠ z.2.2.2.2.1 ∧ k ≠ z.2.2.2.2.2) w' x1 z.1 z.2.1 z.2.2.1 z.2.2.2.1 ∧ w'.heap[z.2.2.2.2.1]? = some (.cells #[.int .i64 x1.f0, .int .i64 x1.f1, .bool x1.f2, .slice z.1 x1.f3.length z.2.1, .slice z.2.2.1 x1.f4.length z.2.2.2.1, .int .i64 x.f0, .int .i64 x.f1, .bool x.f2, .slice A3 x.f3.length c3, .slice A4 x.f4.length c4] 34 (0, 0)) ∧ w'.heap[z.2.2.2.2.2]? = some (.cells #[.int .i64 0, .int .i64 0, .bool false, .slice none 0 0, .slice none 0 0] 34 (0, 0)) ∧ (W1.heap.size ≤ z.2.2.2.2.1 ∧ W1.heap.size ≤ z.2.2.2.2.2 ∧ z.2.2.2.2.1 ≠ z.2.2.2.2.2)) ?_ ?_
  rotate_left
  · intro hCont
    refine two_ (i := 1) (j := 5) (Ni := some 9) (Nj := some 7) #[yY,yY,yY,nN,nN,nN,nN] #[yY,nN,yY,nN,nN,yY,nN] rfl rfl rfl rfl (by kernel_rfl) (by decide) (by decide) (fun K hK => ?_) (fun K hK => ?_)
    · skip
      refine goes_ Tryz.func35 (by kernel_rfl) rfl #[.int .i64 id] (by rfl) rfl rfl (by simp only [List.map_toArray, List.map_cons, List.map_nil]; rfl) ?_
      with_reducible refine (HNU.out _).mono ?_
      rintro e Wu hu
      obtain ⟨E3, q3, E4, q4, rfl, hlu, hBu⟩ := hu.open
      refine ⟨_, rfl, ?_⟩
      have HBu := Lib.hid ((HBR.out).trans (hBu.mono (HBR.out).size))
      have HLu := Lib.hid hlu.o
      have HZu := Lib.hid hBu.size
      clear hu hlu hBu
      refine hK.out _ _ ⟨blk_cell (blk_below HX0d.out HBu.out) 0, blk_cell (blk_below HX0d.out HBu.out) 1, blk_cell (blk_below HX0d.out HBu.out) 2, blk_cell (blk_below HX0d.out HBu.out) 3, blk_cell (blk_below HX0d.out HBu.out) 4⟩ (fun hHeld => ?_)
      clear hK K
      refine norm_ (a' := ?_) ?_ ?_
      rotate_left
      · show Act.put _ (some 9) _ = _
        simp only [Act.put, List.setIfInBounds_toArray, List.set_cons_zero, List.set_cons_succ, i64_w, i32_w]
        rfl
      refine two_ (i := 3) (j := 5) (Ni := some 11) (Nj := some 7) #[yY,yY,yY,yY,nN,nN,nN] #[yY,yY,yY,nN,nN,yY,nN] rfl rfl rfl rfl (by kernel_rfl) (by decide) (by decide) (fun K hK => ?_) (fun K hK => ?_)
      · skip
        refine value_ (w1 := ?_) (v := ?_) (by rfl) rfl ?_ ?_
        rotate_left 2
        · go_simp
          constructor
          · rfl
          · rfl
        obtain ⟨Wub, hWub⟩ : ∃ W, W = Wu.alloc (.cells #[.int .i64 x1.f0, .int .i64 x1.f1, .bool x1.f2, .slice E3 x1.f3.length q3, .slice E4 x1.f4.length q4, .int .i64 x.f0, .int .i64 x.f1, .bool x.f2, .slice A3 x.f3.length c3, .slice A4 x.f4.length c4] 34) := ⟨_, rfl⟩
        rw [← hWub]
        have hBub : Below Wu.heap.size Wu Wub := by rw [hWub]; exact below_alloc (Below.refl _ _) _
        have HBub := Lib.hid ((HBu.out).trans (hBub.mono (HBu.out).size))
        have HNub : Hid (Wub.heap[Wu.heap.size]? = some (.cells #[.int .i64 x1.f0, .int .i64 x1.f1, .bool x1.f2, .slice E3 x1.f3.length q3, .slice E4 x1.f4.length q4, .int .i64 x.f0, .int .i64 x.f1, .bool x.f2, .slice A3 x.f3.length c3, .slice A4 x.f4.length c4] 34 (0, 0))) := Lib.hid (by rw [hWub]; exact blk_new _ _)
        have HZub : Hid (Wub.heap.size = Wu.heap.size + 1) := Lib.hid (by rw [hWub]; simp)
        have HLub := Lib.hid (HLu.out.below hBub)
        clear hWub hBub
        refine hK.out _ _ ⟨blk_cell (blk_below HX0d.out HBub.out) 0, blk_cell (blk_below HX0d.out HBub.out) 1, blk_cell (blk_below HX0d.out HBub.out) 2, blk_cell (blk_below HX0d.out HBub.out) 3, blk_cell (blk_below HX0d.out HBub.out) 4⟩ (fun hHeld => ?_)
        clear hK K
        refine norm_ (a' := ?_) ?_ ?_
        rotate_left
        · show Act.put _ (some 11) _ = _
          simp only [Act.put, List.setIfInBounds_toArray, List.set_cons_zero, List.set_cons_succ, i64_w, i32_w]
          rfl
        refine two_ (i := 4) (j := 5) (Ni := some 12) (Nj := some 7) #[yY,yY,yY,yY,yY,nN,nN] #[yY,yY,yY,yY,nN,yY,nN] rfl rfl rfl rfl (by kernel_rfl) (by decide) (by decide) (fun K hK => ?_) (fun K hK => ?_)
        · skip
          refine goes_ Tryz.func34 (by kernel_rfl) rfl #[.slice (some ⟨Wu.heap.size, 0, none⟩) 2 2] (by rfl) rfl rfl (by simp only [List.map_toArray, List.map_cons, List.map_nil]; rfl) ?_
          with_reducible refine (list_ex _ 2 2 _).mono ?_
          rintro e Wubl ⟨rfl, hBubl⟩
          refine ⟨_, rfl, ?_⟩
          have HBubl := Lib.hid ((HBub.out).trans (hBubl.mono (HBub.out).size))
          have HZubl := Lib.hid hBubl.size
          have HLubl := Lib.hid (HLub.out.below hBubl)
          have HNubl := Lib.hid (blk_below HNub.out hBubl)
          clear hBubl
          refine hK.out _ _ ⟨blk_cell (blk_below HX0d.out HBubl.out) 0, blk_cell (blk_below HX0d.out HBubl.out) 1, blk_cell (blk_below HX0d.out HBubl.out) 2, blk_cell (blk_below HX0d.out HBubl.out) 3, blk_cell (blk_below HX0d.out HBubl.out) 4⟩ (fun hHeld => ?_)
          clear hK K
          refine norm_ (a' := ?_) ?_ ?_
          rotate_left
          · show Act.put _ (some 12) _ = _
            simp only [Act.put, List.setIfInBounds_toArray, List.set_cons_zero, List.set_cons_succ, i64_w, i32_w]
            rfl
          refine one_ (i := 5) (N := some 7) #[yY,yY,yY,yY,yY,yY,nN] rfl rfl (by kernel_rfl) (by decide) (fun K hK => ?_)
          refine value_ (w1 := ?_) (v := ?_) (by rfl) rfl ?_ ?_
          rotate_left 2
          · go_simp
            constructor
            · rfl
            · rfl
          obtain ⟨Wubla, hWubla⟩ : ∃ W, W = Wubl.alloc (.cells #[.int .i64 0, .int .i64 0, .bool false, .slice none 0 0, .slice none 0 0] 34) := ⟨_, rfl⟩
          rw [← hWubla]
          have hBubla : Below Wubl.heap.size Wubl Wubla := by rw [hWubla]; exact below_alloc (Below.refl _ _) _
          have HBubla := Lib.hid ((HBubl.out).trans (hBubla.mono (HBubl.out).size))
          have HAubla : Hid (Wubla.heap[Wubl.heap.size]? = some (.cells #[.int .i64 0, .int .i64 0, .bool false, .slice none 0 0, .slice none 0 0] 34 (0, 0))) := Lib.hid (by rw [hWubla]; exact blk_new _ _)
          have HZubla : Hid (Wubla.heap.size = Wubl.heap.size + 1) := Lib.hid (by rw [hWubla]; simp)
          have HLubla := Lib.hid (HLubl.out.below hBubla)
          have HNubla := Lib.hid (blk_below HNubl.out hBubla)
          clear hWubla hBubla
          refine hK.out _ _ ⟨blk_cell (blk_below HX0d.out HBubla.out) 0, blk_cell (blk_below HX0d.out HBubla.out) 1, blk_cell (blk_below HX0d.out HBubla.out) 2, blk_cell (blk_below HX0d.out HBubla.out) 3, blk_cell (blk_below HX0d.out HBubla.out) 4⟩ (fun hHeld => ?_)
          clear hK K
          refine norm_ (a' := ?_) ?_ ?_
          rotate_left
          · show Act.put _ (some 7) _ = _
            simp only [Act.put, List.setIfInBounds_toArray, List.set_cons_zero, List.set_cons_succ, i64_w, i32_w]
            rfl
          exact norm_ (by simp only [putAll, Act.put, List.setIfInBounds_toArray, List.set_cons_zero, List.set_cons_succ]) (hCont (E3, q3, E4, q4, Wu.heap.size, Wubl.heap.size) _ ⟨HBubla.out, HLubla.out.mono (fun k hk => by dsimp only at hk ⊢; have z1 := HZu.out; have z2 := HZub.out; have z3 := HZubl.out; have z4 := HZubla.out; have z5 := HBR.out.size; omega), HNubla.out, HAubla.out, by dsimp only; have z1 := HZu.out; have z2 := HZub.out; have z3 := HZubl.out; have z4 := HZubla.out; omega⟩)
        · skip
          refine value_ (w1 := ?_) (v := ?_) (by rfl) rfl ?_ ?_
          rotate_left 2
          · go_simp
            constructor
            · rfl
            · rfl
          obtain ⟨Wuba, hWuba⟩ : ∃ W, W = Wub.alloc (.cells #[.int .i64 0, .int .i64 0, .bool false, .slice none 0 0, .slice none 0 0] 34) := ⟨_, rfl⟩
          rw [← hWuba]
          have hBuba : Below Wub.heap.size Wub Wuba := by rw [hWuba]; exact below_alloc (Below.refl _ _) _
          have HBuba := Lib.hid ((HBub.out).trans (hBuba.mono (HBub.out).size))
          have HAuba : Hid (Wuba.heap[Wub.heap.size]? = some (.cells #[.int .i64 0, .int .i64 0, .bool false, .slice none 0 0, .slice none 0 0] 34 (0, 0))) := Lib.hid (by rw [hWuba]; exact blk_new _ _)
          have HZuba : Hid (Wuba.heap.size = Wub.heap.size + 1) := Lib.hid (by rw [hWuba]; simp)
          have HLuba := Lib.hid (HLub.out.below hBuba)
          have HNuba := Lib.hid (blk_below HNub.out hBuba)
          clear hWuba hBuba
          refine hK.out _ _ ⟨blk_cell (blk_below HX0d.out HBuba.out) 0, blk_cell (blk_below HX0d.out HBuba.out) 1, blk_cell (blk_below HX0d.out HBuba.out) 2, blk_cell (blk_below HX0d.out HBuba.out) 3, blk_cell (blk_below HX0d.out HBuba.out) 4⟩ (fun hHeld => ?_)
          clear hK K
          refine norm_ (a' := ?_) ?_ ?_
          rotate_left
          · show Act.put _ (some 7) _ = _
            simp only [Act.put, List.setIfInBounds_toArray, List.set_cons_zero, List.set_cons_succ, i64_w, i32_w]
            rfl
          refine one_ (i := 4) (N := some 12) #[yY,yY,yY,yY,yY,yY,nN] rfl rfl (by kernel_rfl) (by decide) (fun K hK => ?_)
          refine goes_ Tryz.func34 (by kernel_rfl) rfl #[.slice (some ⟨Wu.heap.size, 0, none⟩) 2 2] (by rfl) rfl rfl (by simp only [List.map_toArray, List.map_cons, List.map_nil]; rfl) ?_
          with_reducible refine (list_ex _ 2 2 _).mono ?_
          rintro e Wubal ⟨rfl, hBubal⟩
          refine ⟨_, rfl, ?_⟩
          have HBubal := Lib.hid ((HBuba.out).trans (hBubal.mono (HBuba.out).size))
          have HZubal := Lib.hid hBubal.size
          have HLubal := Lib.hid (HLuba.out.below hBubal)
          have HNubal := Lib.hid (blk_below HNuba.out hBubal)
          have HAubal := Lib.hid (blk_below HAuba.out hBubal)
          clear hBubal
          refine hK.out _ _ ⟨blk_cell (blk_below HX0d.out HBubal.out) 0, blk_cell (blk_below HX0d.out HBubal.out) 1, blk_cell (blk_below HX0d.out HBubal.out) 2, blk_cell (blk_below HX0d.out HBubal.out) 3, blk_cell (blk_below HX0d.out HBubal.out) 4⟩ (fun hHeld => ?_)
          clear hK K
          refine norm_ (a' := ?_) ?_ ?_
          rotate_left
          · show Act.put _ (some 12) _ = _
            simp only [Act.put, List.setIfInBounds_toArray, List.set_cons_zero, List.set_cons_succ, i64_w, i32_w]
            rfl
          exact norm_ (by simp only [putAll, Act.put, List.setIfInBounds_toArray, List.set_cons_zero, List.set_cons_succ]) (hCont (E3, q3, E4, q4, Wu.heap.size, Wub.heap.size) _ ⟨HBubal.out, HLubal.out.mono (fun k hk => by dsimp only at hk ⊢; have z1 := HZu.out; have z2 := HZub.out; have z3 := HZuba.out; have z4 := HZubal.out; have z5 := HBR.out.size; omega), HNubal.out, HAubal.out, by dsimp only; have z1 := HZu.out; have z2 := HZub.out; have z3 := HZuba.out; have z4 := HZubal.out; omega⟩)
      · skip
        refine value_ (w1 := ?_) (v := ?_) (by rfl) rfl ?_ ?_
        rotate_left 2
        · go_simp
          constructor
          · rfl
          · rfl
        obtain ⟨Wua, hWua⟩ : ∃ W, W = Wu.alloc (.cells #[.int .i64 0, .int .i64 0, .bool false, .slice none 0 0, .slice none 0 0] 34) := ⟨_, rfl⟩
        rw [← hWua]
        have hBua : Below Wu.heap.size Wu Wua := by rw [hWua]; exact below_alloc (Below.refl _ _) _
        have HBua := Lib.hid ((HBu.out).trans (hBua.mono (HBu.out).size))
        have HAua : Hid (Wua.heap[Wu.heap.size]? = some (.cells #[.int .i64 0, .int .i64 0, .bool false, .slice none 0 0, .slice none 0 0] 34 (0, 0))) := Lib.hid (by rw [hWua]; exact blk_new _ _)
        have HZua : Hid (Wua.heap.size = Wu.heap.size + 1) := Lib.hid (by rw [hWua]; simp)
        have HLua := Lib.hid (HLu.out.below hBua)
        clear hWua hBua
        refine hK.out _ _ ⟨blk_cell (blk_below HX0d.out HBua.out) 0, blk_cell (blk_below HX0d.out HBua.out) 1, blk_cell (blk_below HX0d.out HBua.out) 2, blk_cell (blk_below HX0d.out HBua.out) 3, blk_cell (blk_below HX0d.out HBua.out) 4⟩ (fun hHeld => ?_)
        clear hK K
        refine norm_ (a' := ?_) ?_ ?_
        rotate_left
        · show Act.put _ (some 7) _ = _
          simp only [Act.put, List.setIfInBounds_toArray, List.set_cons_zero, List.set_cons_succ, i64_w, i32_w]
          rfl
        refine one_ (i := 3) (N := some 11) #[yY,yY,yY,yY,nN,yY,nN] rfl rfl (by kernel_rfl) (by decide) (fun K hK => ?_)
        refine value_ (w1 := ?_) (v := ?_) (by rfl) rfl ?_ ?_
        rotate_left 2
        · go_simp
          constructor
          · rfl
          · rfl
        obtain ⟨Wuab, hWuab⟩ : ∃ W, W = Wua.alloc (.cells #[.int .i64 x1.f0, .int .i64 x1.f1, .bool x1.f2, .slice E3 x1.f3.length q3, .slice E4 x1.f4.length q4, .int .i64 x.f0, .int .i64 x.f1, .bool x.f2, .slice A3 x.f3.length c3, .slice A4 x.f4.length c4] 34) := ⟨_, rfl⟩
        rw [← hWuab]
        have hBuab : Below Wua.heap.size Wua Wuab := by rw [hWuab]; exact below_alloc (Below.refl _ _) _
        have HBuab := Lib.hid ((HBua.out).trans (hBuab.mono (HBua.out).size))
        have HNuab : Hid (Wuab.heap[Wua.heap.size]? = some (.cells #[.int .i64 x1.f0, .int .i64 x1.f1, .bool x1.f2, .slice E3 x1.f3.length q3, .slice E4 x1.f4.length q4, .int .i64 x.f0, .int .i64 x.f1, .bool x.f2, .slice A3 x.f3.length c3, .slice A4 x.f4.length c4] 34 (0, 0))) := Lib.hid (by rw [hWuab]; exact blk_new _ _)
        have HZuab : Hid (Wuab.heap.size = Wua.heap.size + 1) := Lib.hid (by rw [hWuab]; simp)
        have HLuab := Lib.hid (HLua.out.below hBuab)
        have HAuab := Lib.hid (blk_below HAua.out hBuab)
        clear hWuab hBuab
        refine hK.out _ _ ⟨blk_cell (blk_below HX0d.out HBuab.out) 0, blk_cell (blk_below HX0d.out HBuab.out) 1, blk_cell (blk_below HX0d.out HBuab.out) 2, blk_cell (blk_below HX0d.out HBuab.out) 3, blk_cell (blk_below HX0d.out HBuab.out) 4⟩ (fun hHeld => ?_)
        clear hK K
        refine norm_ (a' := ?_) ?_ ?_
        rotate_left
        · show Act.put _ (some 11) _ = _
          simp only [Act.put, List.setIfInBounds_toArray, List.set_cons_zero, List.set_cons_succ, i64_w, i32_w]
          rfl
        refine one_ (i := 4) (N := some 12) #[yY,yY,yY,yY,yY,yY,nN] rfl rfl (by kernel_rfl) (by decide) (fun K hK => ?_)
        refine goes_ Tryz.func34 (by kernel_rfl) rfl #[.slice (some ⟨Wua.heap.size, 0, none⟩) 2 2] (by rfl) rfl rfl (by simp only [List.map_toArray, List.map_cons, List.map_nil]; rfl) ?_
        with_reducible refine (list_ex _ 2 2 _).mono ?_
        rintro e Wuabl ⟨rfl, hBuabl⟩
        refine ⟨_, rfl, ?_⟩
        have HBuabl := Lib.hid ((HBuab.out).trans (hBuabl.mono (HBuab.out).size))
        have HZuabl := Lib.hid hBuabl.size
        have HLuabl := Lib.hid (HLuab.out.below hBuabl)
        have HNuabl := Lib.hid (blk_below HNuab.out hBuabl)
        have HAuabl := Lib.hid (blk_below HAuab.out hBuabl)
        clear hBuabl
        refine hK.out _ _ ⟨blk_cell (blk_below HX0d.out HBuabl.out) 0, blk_cell (blk_below HX0d.out HBuabl.out) 1, blk_cell (blk_below HX0d.out HBuabl.out) 2, blk_cell (blk_below HX0d.out HBuabl.out) 3, blk_cell (blk_below HX0d.out HBuabl.out) 4⟩ (fun hHeld => ?_)
        clear hK K
        refine norm_ (a' := ?_) ?_ ?_
        rotate_left
        · show Act.put _ (some 12) _ = _
          simp only [Act.put, List.setIfInBounds_toArray, List.set_cons_zero, List.set_cons_succ, i64_w, i32_w]
          rfl
        exact norm_ (by simp only [putAll, Act.put, List.setIfInBounds_toArray, List.set_cons_zero, List.set_cons_succ]) (hCont (E3, q3, E4, q4, Wua.heap.size, Wu.heap.size) _ ⟨HBuabl.out, HLuabl.out.mono (fun k hk => by dsimp only at hk ⊢; have z1 := HZu.out; have z2 := HZua.out; have z3 := HZuab.out; have z4 := HZuabl.out; have z5 := HBR.out.size; omega), HNuabl.out, HAuabl.out, by dsimp only; have z1 := HZu.out; have z2 := HZua.out; have z3 := HZuab.out; have z4 := HZuabl.out; omega⟩)
    · skip
      refine value_ (w1 := ?_) (v := ?_) (by rfl) rfl ?_ ?_
      rotate_left 2
      · go_simp
        constructor
        · rfl
        · rfl
      obtain ⟨Wa, hWa⟩ : ∃ W, W = W1.alloc (.cells #[.int .i64 0, .int .i64 0, .bool false, .slice none 0 0, .slice none 0 0] 34) := ⟨_, rfl⟩
      rw [← hWa]
      have hBa : Below W1.heap.size W1 Wa := by rw [hWa]; exact below_alloc (Below.refl _ _) _
      have HBa := Lib.hid ((HBR.out).trans (hBa.mono (HBR.out).size))
      have HAa : Hid (Wa.heap[W1.heap.size]? = some (.cells #[.int .i64 0, .int .i64 0, .bool false, .slice none 0 0, .slice none 0 0] 34 (0, 0))) := Lib.hid (by rw [hWa]; exact blk_new _ _)
      have HZa : Hid (Wa.heap.size = W1.heap.size + 1) := Lib.hid (by rw [hWa]; simp)
      clear hWa hBa
      refine hK.out _ _ ⟨blk_cell (blk_below HX0d.out HBa.out) 0, blk_cell (blk_below HX0d.out HBa.out) 1, blk_cell (blk_below HX0d.out HBa.out) 2, blk_cell (blk_below HX0d.out HBa.out) 3, blk_cell (blk_below HX0d.out HBa.out) 4⟩ (fun hHeld => ?_)
      clear hK K
      refine norm_ (a' := ?_) ?_ ?_
      rotate_left
      · show Act.put _ (some 7) _ = _
        simp only [Act.put, List.setIfInBounds_toArray, List.set_cons_zero, List.set_cons_succ, i64_w, i32_w]
        rfl
      refine one_ (i := 1) (N := some 9) #[yY,yY,yY,nN,nN,yY,nN] rfl rfl (by kernel_rfl) (by decide) (fun K hK => ?_)
      refine goes_ Tryz.func35 (by kernel_rfl) rfl #[.int .i64 id] (by rfl) rfl rfl (by simp only [List.map_toArray, List.map_cons, List.map_nil]; rfl) ?_
      with_reducible refine (HNU.out _).mono ?_
      rintro e Wau hau
      obtain ⟨E3, q3, E4, q4, rfl, hlau, hBau⟩ := hau.open
      refine ⟨_, rfl, ?_⟩
      have HBau := Lib.hid ((HBa.out).trans (hBau.mono (HBa.out).size))
      have HLau := Lib.hid hlau.o
      have HZau := Lib.hid hBau.size
      have HAau := Lib.hid (blk_below HAa.out hBau)
      clear hau hlau hBau
      refine hK.out _ _ ⟨blk_cell (blk_below HX0d.out HBau.out) 0, blk_cell (blk_below HX0d.out HBau.out) 1, blk_cell (blk_below HX0d.out HBau.out) 2, blk_cell (blk_below HX0d.out HBau.out) 3, blk_cell (blk_below HX0d.out HBau.out) 4⟩ (fun hHeld => ?_)
      clear hK K
      refine norm_ (a' := ?_) ?_ ?_
      rotate_left
      · show Act.put _ (some 9) _ = _
        simp only [Act.put, List.setIfInBounds_toArray, List.set_cons_zero, List.set_cons_succ, i64_w, i32_w]
        rfl
      refine one_ (i := 3) (N := some 11) #[yY,yY,yY,yY,nN,yY,nN] rfl rfl (by kernel_rfl) (by decide) (fun K hK => ?_)
      refine value_ (w1 := ?_) (v := ?_) (by rfl) rfl ?_ ?_
      rotate_left 2
      · go_simp
        constructor
        · rfl
        · rfl
      obtain ⟨Waub, hWaub⟩ : ∃ W, W = Wau.alloc (.cells #[.int .i64 x1.f0, .int .i64 x1.f1, .bool x1.f2, .slice E3 x1.f3.length q3, .slice E4 x1.f4.length q4, .int .i64 x.f0, .int .i64 x.f1, .bool x.f2, .slice A3 x.f3.length c3, .slice A4 x.f4.length c4] 34) := ⟨_, rfl⟩
      rw [← hWaub]
      have hBaub : Below Wau.heap.size Wau Waub := by rw [hWaub]; exact below_alloc (Below.refl _ _) _
      have HBaub := Lib.hid ((HBau.out).trans (hBaub.mono (HBau.out).size))
      have HNaub : Hid (Waub.heap[Wau.heap.size]? = some (.cells #[.int .i64 x1.f0, .int .i64 x1.f1, .bool x1.f2, .slice E3 x1.f3.length q3, .slice E4 x1.f4.length q4, .int .i64 x.f0, .int .i64 x.f1, .bool x.f2, .slice A3 x.f3.length c3, .slice A4 x.f4.length c4] 34 (0, 0))) := Lib.hid (by rw [hWaub]; exact blk_new _ _)
      have HZaub : Hid (Waub.heap.size = Wau.heap.size + 1) := Lib.hid (by rw [hWaub]; simp)
      have HLaub := Lib.hid (HLau.out.below hBaub)
      have HAaub := Lib.hid (blk_below HAau.out hBaub)
      clear hWaub hBaub
      refine hK.out _ _ ⟨blk_cell (blk_below HX0d.out HBaub.out) 0, blk_cell (blk_below HX0d.out HBaub.out) 1, blk_cell (blk_below HX0d.out HBaub.out) 2, blk_cell (blk_below HX0d.out HBaub.out) 3, blk_cell (blk_below HX0d.out HBaub.out) 4⟩ (fun hHeld => ?_)
      clear hK K
      refine norm_ (a' := ?_) ?_ ?_
      rotate_left
      · show Act.put _ (some 11) _ = _
        simp only [Act.put, List.setIfInBounds_toArray, List.set_cons_zero, List.set_cons_succ, i64_w, i32_w]
        rfl
      refine one_ (i := 4) (N := some 12) #[yY,yY,yY,yY,yY,yY,nN] rfl rfl (by kernel_rfl) (by decide) (fun K hK => ?_)
      refine goes_ Tryz.func34 (by kernel_rfl) rfl #[.slice (some ⟨Wau.heap.size, 0, none⟩) 2 2] (by rfl) rfl rfl (by simp only [List.map_toArray, List.map_cons, List.map_nil]; rfl) ?_
      with_reducible refine (list_ex _ 2 2 _).mono ?_
      rintro e Waubl ⟨rfl, hBaubl⟩
      refine ⟨_, rfl, ?_⟩
      have HBaubl := Lib.hid ((HBaub.out).trans (hBaubl.mono (HBaub.out).size))
      have HZaubl := Lib.hid hBaubl.size
      have HLaubl := Lib.hid (HLaub.out.below hBaubl)
      have HNaubl := Lib.hid (blk_below HNaub.out hBaubl)
      have HAaubl := Lib.hid (blk_below HAaub.out hBaubl)
      clear hBaubl
      refine hK.out _ _ ⟨blk_cell (blk_below HX0d.out HBaubl.out) 0, blk_cell (blk_below HX0d.out HBaubl.out) 1, blk_cell (blk_below HX0d.out HBaubl.out) 2, blk_cell (blk_below HX0d.out HBaubl.out) 3, blk_cell (blk_below HX0d.out HBaubl.out) 4⟩ (fun hHeld => ?_)
      clear hK K
      refine norm_ (a' := ?_) ?_ ?_
      rotate_left
      · show Act.put _ (some 12) _ = _
        simp only [Act.put, List.setIfInBounds_toArray, List.set_cons_zero, List.set_cons_succ, i64_w, i32_w]
        rfl
      exact norm_ (by simp only [putAll, Act.put, List.setIfInBounds_toArray, List.set_cons_zero, List.set_cons_succ]) (hCont (E3, q3, E4, q4, Wau.heap.size, W1.heap.size) _ ⟨HBaubl.out, HLaubl.out.mono (fun k hk => by dsimp only at hk ⊢; have z1 := HZa.out; have z2 := HZau.out; have z3 := HZaub.out; have z4 := HZaubl.out; have z5 := HBa.out.size; omega), HNaubl.out, HAaubl.out, by dsimp only; have z1 := HZa.out; have z2 := HZau.out; have z3 := HZaub.out; have z4 := HZaubl.out; omega⟩)
  rintro ⟨E3, q3, E4, q4, nb, g⟩ WF ⟨hBF, hLF, hNF, hAF, hgg⟩
  have HBF := Lib.hid hBF
  have HLF := Lib.hid hLF
  have HNF := Lib.hid hNF
  have HAF := Lib.hid hAF
  have HGG : Hid (W1.heap.size ≤ nb ∧ W1.heap.size ≤ g ∧ nb ≠ g) := Lib.hid hgg
  clear hBF hLF hNF hAF hgg
  have hHeld : WF.cell? ⟨w.heap.size, 0, none⟩ = some (.int .i64 x.f0) ∧ WF.cell? ⟨w.heap.size, 1, none⟩ = some (.int .i64 x.f1) ∧ WF.cell? ⟨w.heap.size, 2, none⟩ = some (.bool x.f2) ∧ WF.cell? ⟨w.heap.size, 3, none⟩ = some (.slice A3 x.f3.length c3) ∧ WF.cell? ⟨w.heap.size, 4, none⟩ = some (.slice A4 x.f4.length c4) := ⟨blk_cell (blk_below HX0d.out HBF.out) 0, blk_cell (blk_below HX0d.out HBF.out) 1, blk_cell (blk_below HX0d.out HBF.out) 2, blk_cell (blk_below HX0d.out HBF.out) 3, blk_cell (blk_below HX0d.out HBF.out) 4⟩
  refine norm_ (a' := ?_) ?_ ?_
  rotate_left
  · simp only [putAll, Act.put, List.setIfInBounds_toArray, List.set_cons_zero, List.set_cons_succ]
    rfl
  refine one_ (i := 6) (N := none) #[yY,yY,yY,yY,yY,yY,yY] rfl rfl (by kernel_rfl) (by decide) (fun K hK => ?_)
  have HBZ : Hid (w.heap.size < g) := Lib.hid (by have h1 := HGG.out; have h2 := HS1.out; omega)
  have r0 := blk_cell HAF.out 0
  have r1 := blk_cell HAF.out 1
  have r2 := blk_cell HAF.out 2
  have r3 := blk_cell HAF.out 3
  have r4 := blk_cell HAF.out 4
  have rf0 := blk_frozen HAF.out 0
  have rf1 := blk_frozen HAF.out 1
  have rf2 := blk_frozen HAF.out 2
  have rf3 := blk_frozen HAF.out 3
  have rf4 := blk_frozen HAF.out 4
  refine skip_ (w1 := ?_) (by rfl) rfl ?_ ?_
  rotate_left
  · go_simp
    rfl
  refine hK.out _ _ ⟨blk_cell (far5 (blk_below HX0d.out HBF.out) (by have := HBZ.out; omega) _ _ _ _ _) 0, blk_cell (far5 (blk_below HX0d.out HBF.out) (by have := HBZ.out; omega) _ _ _ _ _) 1, blk_cell (far5 (blk_below HX0d.out HBF.out) (by have := HBZ.out; omega) _ _ _ _ _) 2, blk_cell (far5 (blk_below HX0d.out HBF.out) (by have := HBZ.out; omega) _ _ _ _ _) 3, blk_cell (far5 (blk_below HX0d.out HBF.out) (by have := HBZ.out; omega) _ _ _ _ _) 4⟩ (fun hHeld => ?_)
  clear hK K
  refine done_ (by kernel_rfl) ?_
  obtain ⟨W2, hW2⟩ : ∃ W2, W2 = (((((WF.setCell ⟨g, 0, none⟩ (.int .i64 0)).setCell ⟨g, 1, none⟩ (.int .i64 16)).setCell ⟨g, 2, none⟩ (.bool true)).setCell ⟨g, 3, none⟩ (.slice none 0 0)).setCell ⟨g, 4, none⟩ (.slice (some ⟨nb, 0, none⟩) 2 2)) := ⟨_, rfl⟩
  rw [← hW2]
  have HG2 : Hid (W2.heap[g]? = some (.cells #[.int .i64 0, .int .i64 16, .bool true, .slice none 0 0, .slice (some ⟨nb, 0, none⟩) 2 2] 34 (0, 0))) := Lib.hid (by rw [hW2]; exact set5 HAF.out _ _ _ _ _)
  have hst : ∀ k, k ≠ g → W2.heap[k]? = WF.heap[k]? := fun k hk => by rw [hW2]; exact heap5 hk _ _ _ _ _
  have hBF : Below w.heap.size w WF := HB1.out.trans (HBF.out.mono HB1.out.size)
  have HB2 : Hid (Below w.heap.size w W2) := Lib.hid (by rw [hW2]; exact below5 hBF (Nat.le_of_lt HBZ.out) _ _ _ _ _)
  have HR2 : Hid (W2.heap[w.heap.size + 1]? = some (.cells #[.int .i64 0, .int .i64 0, .bool false, .slice none 0 0, .slice none 0 0] 34 (0, 0))) := Lib.hid (by rw [hst _ (by have h1 := HGG.out; have h2 := HS1.out; omega)]; exact blk_below HR0d.out HBF.out)
  have HN2 : Hid (Kd.N k34 34 W2 (w.heap.size + 2) (fun k => k ≠ w.heap.size + 1 ∧ k ≠ g) (.slice (some ⟨nb, 0, none⟩) 2 2) [x1, x]) := Lib.hid (by
    have h1 := HGG.out
    have h2 := HS1.out
    refine N_two (c1 := cellsP x1 E3 q3 E4 q4) (c2 := cellsP x A3 c3 A4 c4) (by rw [hst nb h1.2.2]; exact HNF.out) (by omega) ⟨by omega, h1.2.2⟩ ?_ ?_
    · exact Kd.FK_mono (HLF.out.step (fun k hk _ => hst k hk.2.2)).fk (fun k hk => ⟨⟨by have := hk.1; omega, hk.2.2⟩, hk.2.1⟩)
    · exact Kd.FK_mono ((HLX.out.below HBF.out).step (fun k hk _ => hst k (by omega))).fk (fun k hk => ⟨⟨by omega, by omega⟩, by omega⟩))
  have HS2 : Hid (WF.heap.size ≤ W2.heap.size) := Lib.hid (by rw [hW2]; simp)
  have HGL : Hid (g < W2.heap.size) := Lib.hid (blk_lt HG2.out)
  have HRL : Hid (w.heap.size + 1 < W2.heap.size) := Lib.hid (blk_lt HR2.out)
  clear hHeld
  clear hW2 hst hBF r0 r1 r2 r3 r4 rf0 rf1 rf2 rf3 rf4
  clear HAF HNF HLF HBF HX0d HR0d HX0 HR0 HBR
  rcases Nat.eq_zero_or_pos ss.length with h0 | h0
  · have e1 : decide (0 < (ss.length : Int)) = false := decide_eq_false (by omega)
    have e2 : decide (0 < ss.length) = false := decide_eq_false (by omega)
    have HM0 : Hid (y = tL [x1, x]) := Lib.hid (by rw [HM.out, List.eq_nil_of_length_eq_zero h0]; rfl)
    have s0 : W2.cell? ⟨g, 0, none⟩ = some (.int .i64 0) := blk_cell HG2.out 0
    have s1 : W2.cell? ⟨g, 1, none⟩ = some (.int .i64 16) := blk_cell HG2.out 1
    have s2 : W2.cell? ⟨g, 2, none⟩ = some (.bool true) := blk_cell HG2.out 2
    have s3 : W2.cell? ⟨g, 3, none⟩ = some (.slice none 0 0) := blk_cell HG2.out 3
    have s4 : W2.cell? ⟨g, 4, none⟩ = some (.slice (some ⟨nb, 0, none⟩) 2 2) := blk_cell HG2.out 4
    have p0 : W2.cell? ⟨w.heap.size + 1, 0, none⟩ = some (.int .i64 0) := blk_cell HR2.out 0
    have p1 : W2.cell? ⟨w.heap.size + 1, 1, none⟩ = some (.int .i64 0) := blk_cell HR2.out 1
    have p2 : W2.cell? ⟨w.heap.size + 1, 2, none⟩ = some (.bool false) := blk_cell HR2.out 2
    have p3 : W2.cell? ⟨w.heap.size + 1, 3, none⟩ = some (.slice none 0 0) := blk_cell HR2.out 3
    have p4 : W2.cell? ⟨w.heap.size + 1, 4, none⟩ = some (.slice none 0 0) := blk_cell HR2.out 4
    have pf0 : W2.frozen? ⟨w.heap.size + 1, 0, none⟩ = false := blk_frozen HR2.out 0
    have pf1 : W2.frozen? ⟨w.heap.size + 1, 1, none⟩ = false := blk_frozen HR2.out 1
    have pf2 : W2.frozen? ⟨w.heap.size + 1, 2, none⟩ = false := blk_frozen HR2.out 2
    have pf3 : W2.frozen? ⟨w.heap.size + 1, 3, none⟩ = false := blk_frozen HR2.out 3
    have pf4 : W2.frozen? ⟨w.heap.size + 1, 4, none⟩ = false := blk_frozen HR2.out 4
    clear h0
    go_wp2
    try simp only [Exit.inBlock, Exit.then]
    exact bodyPost_ret (results_c rfl _ _ _ _ _ _ _ rfl (set5 HR2.out (.int .i64 0) (.int .i64 16) (.bool true) (.slice none 0 0) (.slice (some ⟨nb, 0, none⟩) 2 2)) Tryz.underlying34 rfl size34) rfl (by rw [HM0.out]; exact msg_end HB2.out HN2.out (some ⟨nb, 0, none⟩) 2 rfl (Nat.le_refl _))
  · have e1 : decide (0 < (ss.length : Int)) = true := decide_eq_true (by omega)
    have e2 : decide (0 < ss.length) = true := decide_eq_true (by omega)
    obtain ⟨z, hz⟩ : ∃ z : S34, z = ⟨2, 0, true, [], ss⟩ := ⟨_, rfl⟩
    have HM0 : Hid (y = tL ([x1, x] ++ [z])) := Lib.hid (by
      rw [HM.out, hz]
      cases hss : ss with
      | nil => rw [hss] at h0; simp at h0
      | cons _ _ => rfl)
    have HK2 : Hid (Kd.FK k34 W2 (fun k => (k ≠ w.heap.size + 1 ∧ k ≠ g) ∧ some k ≠ (Value.slice (some ⟨nb, 0, none⟩) 2 2).ownBlock) z [.int .i64 2, .int .i64 0, .bool true, .slice none 0 0, .slice A5 ss.length c5]) := Lib.hid (by
      have h1 := HGG.out
      have h2 := HS1.out
      have hl : LiesO (fun k => k < w.heap.size) W2 z none 0 A5 c5 := by rw [hz]; exact ⟨Nat.le_refl _, Kd.F_nil _ _ _, HL5.out, Kd.F_below HSS0.out HB2.out⟩
      have hf := hl.fk
      rw [hz] at hf ⊢
      exact Kd.FK_mono hf (fun k hk => ⟨⟨by omega, by have := HBZ.out; omega⟩, fun he => by
        have : k = nb := by simpa [Value.ownBlock] using he
        omega⟩))
    have HFR : Hid (∀ k, W2.heap.size ≤ k → k ≠ w.heap.size + 1 ∧ k ≠ g) := Lib.hid (fun k hk => ⟨by have := HRL.out; omega, by have := HGL.out; omega⟩)
    have HLO : Hid (w.heap.size + 2 ≤ W2.heap.size) := Lib.hid (by have := HRL.out; omega)
    have HNE : Hid (some g ≠ (Value.slice (some ⟨nb, 0, none⟩) 2 2).ownBlock) := Lib.hid (fun he => by
      have h1 := HGG.out
      have : g = nb := by simpa [Value.ownBlock] using he
      omega)
    have HNR : Hid (some (w.heap.size + 1) ≠ (Value.slice (some ⟨nb, 0, none⟩) 2 2).ownBlock) := Lib.hid (fun he => by
      have h1 := HGG.out
      have h2 := HS1.out
      have : w.heap.size + 1 = nb := by simpa [Value.ownBlock] using he
      omega)
    have k4 : W2.cell? ⟨g, 4, none⟩ = some (.slice (some ⟨nb, 0, none⟩) 2 2) := blk_cell HG2.out 4
    clear h0 hz
    go_upto_region 4 with (first
      | ((with_reducible refine gate_builtin (b := .append) (xs := #[.tmp 17, .tmp 20]) rfl ?_)
         at_builtin
         refine Kd.N_append k34 (w0 := W2) (W := W2) (w.heap.size + 2) rfl (.tmp 17) (.tmp 20) 32 34 (.agg #[.int .i64 0, .int .i64 0, .bool false, .slice none 0 0, .slice none 0 0]) 72 rfl Tryz.underlying32 info_sp rfl (show 0 < 5 by decide) (by decide) (.slice (some ⟨nb, 0, none⟩) 2 2) [x1, x] z _ (fun k => k ≠ w.heap.size + 1 ∧ k ≠ g) _ rfl rfl HK2.out (fun _ h => h) HFR.out HN2.out (Below.refl _ _) HLO.out (show (2 + 1) * 72 ≤ 140737488355328 by decide) ?_
         intro v1 w1 hR hb hg hat
         have HG8 := Lib.hid (blk_grown HG2.out hg HNE.out)
         have HR8 := Lib.hid (blk_grown HR2.out hg HNR.out)
         have x0 : w1.cell? ⟨g, 4, none⟩ = some (.slice (some ⟨nb, 0, none⟩) 2 2) := blk_cell HG8.out 4
         have xf : w1.frozen? ⟨g, 4, none⟩ = false := blk_frozen HG8.out 4
         obtain ⟨Aq, cq, hvq⟩ := Kd.N_slice hR
         obtain ⟨n, hn⟩ : ∃ n, n = ([x1, x] ++ [z]).length := ⟨_, rfl⟩
         rw [← hn] at hvq
         subst hvq
         have HN8 := Lib.hid hR
         have HB8 : Hid (Below w.heap.size w w1) := Lib.hid (HB2.out.trans (hb.mono (by omega)))
         have HN := Lib.hid hn
         clear hR hb hg hat hn))
    obtain ⟨W5, hW5⟩ : ∃ W5, W5 = w1.setCell ⟨g, 4, none⟩ (.slice Aq n cq) := ⟨_, rfl⟩
    rw [← hW5]
    have HG5 : Hid (W5.heap[g]? = some (.cells #[.int .i64 0, .int .i64 16, .bool true, .slice none 0 0, .slice Aq n cq] 34 (0, 0))) := Lib.hid (by rw [hW5]; exact blk_set HG8.out 4 _)
    have HR5 : Hid (W5.heap[w.heap.size + 1]? = some (.cells #[.int .i64 0, .int .i64 0, .bool false, .slice none 0 0, .slice none 0 0] 34 (0, 0))) := Lib.hid (by rw [hW5]; exact blk_far HR8.out (p := ⟨g, 4, none⟩) (by have h1 := HGG.out; have h2 := HS1.out; show w.heap.size + 1 ≠ g; omega) _)
    have HN5 : Hid (Kd.N k34 34 W5 (w.heap.size + 2) (fun k => k ≠ w.heap.size + 1 ∧ k ≠ g) (.slice Aq n cq) ([x1, x] ++ [z])) := Lib.hid (by rw [hW5]; exact Kd.N_far HN8.out (p := ⟨g, 4, none⟩) (fun k hk => hk.2) _)
    have HB5 : Hid (Below w.heap.size w W5) := Lib.hid (by rw [hW5]; exact HB8.out.setCell (p := ⟨g, 4, none⟩) (Nat.le_of_lt HBZ.out) _)
    have s0 : W5.cell? ⟨g, 0, none⟩ = some (.int .i64 0) := blk_cell HG5.out 0
    have s1 : W5.cell? ⟨g, 1, none⟩ = some (.int .i64 16) := blk_cell HG5.out 1
    have s2 : W5.cell? ⟨g, 2, none⟩ = some (.bool true) := blk_cell HG5.out 2
    have s3 : W5.cell? ⟨g, 3, none⟩ = some (.slice none 0 0) := blk_cell HG5.out 3
    have s4 : W5.cell? ⟨g, 4, none⟩ = some (.slice Aq n cq) := blk_cell HG5.out 4
    have p0 : W5.cell? ⟨w.heap.size + 1, 0, none⟩ = some (.int .i64 0) := blk_cell HR5.out 0
    have p1 : W5.cell? ⟨w.heap.size + 1, 1, none⟩ = some (.int .i64 0) := blk_cell HR5.out 1
    have p2 : W5.cell? ⟨w.heap.size + 1, 2, none⟩ = some (.bool false) := blk_cell HR5.out 2
    have p3 : W5.cell? ⟨w.heap.size + 1, 3, none⟩ = some (.slice none 0 0) := blk_cell HR5.out 3
    have p4 : W5.cell? ⟨w.heap.size + 1, 4, none⟩ = some (.slice none 0 0) := blk_cell HR5.out 4
    have pf0 : W5.frozen? ⟨w.heap.size + 1, 0, none⟩ = false := blk_frozen HR5.out 0
    have pf1 : W5.frozen? ⟨w.heap.size + 1, 1, none⟩ = false := blk_frozen HR5.out 1
    have pf2 : W5.frozen? ⟨w.heap.size + 1, 2, none⟩ = false := blk_frozen HR5.out 2
    have pf3 : W5.frozen? ⟨w.heap.size + 1, 3, none⟩ = false := blk_frozen HR5.out 3
    have pf4 : W5.frozen? ⟨w.heap.size + 1, 4, none⟩ = false := blk_frozen HR5.out 4
    clear hW5 x0 xf k4
    go_wp2
    try simp only [Exit.inBlock, Exit.then]
    exact bodyPost_ret (results_c rfl _ _ _ _ _ _ _ rfl (set5 HR5.out (.int .i64 0) (.int .i64 16) (.bool true) (.slice none 0 0) (.slice Aq n cq)) Tryz.underlying34 rfl size34) rfl (by rw [HM0.out, HN.out]; exact msg_end HB5.out (HN.out ▸ HN5.out) Aq cq rfl (by
      obtain ⟨_, _, he, hc, _⟩ := Kd.N_reads (HN.out ▸ HN5.out : Kd.N k34 34 W5 (w.heap.size + 2) (fun k => k ≠ w.heap.size + 1 ∧ k ≠ g) (.slice Aq ([x1, x] ++ [z]).length cq) ([x1, x] ++ [z]))
      injection he with h1 h2 h3
      rw [h3]
      exact hc))
end Go.Proofs.YteockihoefbmdaaGreatDoor.Ber
namespace Go.Proofs.YteockihoefbmdaaGreatDoor.Ber
open Go.RowKit Go.Proofs.YteockihoefbmdaaGreatDoorW.PrintWords Go.Proofs.YteockihoefbmdaaGreatDoor.PFnEncode Go.Proofs.YteockihoefbmdaaGreatDoor.Tree Go.Proofs.YteockihoefbmdaaGreatDoor.Buf Go.Proofs.YteockihoefbmdaaGreatDoor.Pk Go.Proofs.YteockihoefbmdaaGreatDoor.Within Go.Proofs.YteockihoefbmdaaGreatDoor.Num
set_option linter.unusedVariables false
set_option linter.unusedSimpArgs false

set_option maxHeartbeats 3200000 in
set_option maxRecDepth 100000 in
theorem sResult_nw (tag code : Int) (ma me : ByteArray) (w : World) (hcode : 0 ≤ code ∧ code ≤ 1000) (hma : ma.size ≤ 140737488355328) (hme : me.size ≤ 140737488355328) :
    Calls Tryz.prog 24 #[.int .i64 tag, .int .i64 code, .string ma, .string me] w (Nw w.heap.size w (tOp tag [tC code, tO ma, tO me])) := by
  have HCn1 : Hid (∀ W, Calls Tryz.prog 54 #[.int .i64 code] W (Nw W.heap.size W (tC code))) := Lib.hid (fun W => code_nw code (by omega) W)
  obtain ⟨n1, hxn1⟩ : ∃ y_, y_ = (tC code) := ⟨_, rfl⟩
  rw [← hxn1] at HCn1
  have HCo1 : Hid (∀ W, Calls Tryz.prog 37 #[.string ma] W (Nw W.heap.size W (tO ma))) := Lib.hid (fun W => octets_nw ma W (by omega))
  obtain ⟨o1, hxo1⟩ : ∃ y_, y_ = (tO ma) := ⟨_, rfl⟩
  rw [← hxo1] at HCo1
  have HCo2 : Hid (∀ W, Calls Tryz.prog 37 #[.string me] W (Nw W.heap.size W (tO me))) := Lib.hid (fun W => octets_nw me W (by omega))
  obtain ⟨o2, hxo2⟩ : ∃ y_, y_ = (tO me) := ⟨_, rfl⟩
  rw [← hxo2] at HCo2
  have HCr1 : Hid (∀ (A : Option Addr) (cc : Nat) (W : World), Kd.F k34 W (fun k => w.heap.size + 1 ≤ k) A [n1, o1, o2].length [n1, o1, o2] → 3 ≤ cc → w.heap.size + 1 ≤ W.heap.size → Calls Tryz.prog 53 #[.int .i64 tag, .slice A 3 cc] W (Nw (w.heap.size + 1) W (tOp tag [n1, o1, o2]))) := Lib.hid (fun A cc W h1 h2 h3 => operation_nw tag [n1, o1, o2] A cc W h1 h2 h3)
  obtain ⟨r1, hxr1⟩ : ∃ y_, y_ = (tOp tag [n1, o1, o2]) := ⟨_, rfl⟩
  rw [← hxr1] at HCr1
  have hfin : (tOp tag [tC code, tO ma, tO me]) = r1 := by
    first | (rw [hxr1, hxo2, hxo1, hxn1]; done) | (rw [hxr1, hxo2, hxo1, hxn1]; rfl)
  rw [hfin]
  clear hfin hxn1 hxo1 hxo2 hxr1
  go_enter Tryz.func24, Tryz.ntmps24
  go_wp2_with (first
    | (go_at_call 54
       first
       | (obtain ⟨W0, hW0⟩ : ∃ W0, W0 = w.alloc (.cells #[.int .i64 0, .int .i64 0, .bool false, .slice none 0 0, .slice none 0 0] 34) := ⟨_, rfl⟩
          rw [← hW0]
          have hb0 : Below w.heap.size w W0 := by rw [hW0]; exact below_alloc (Below.refl _ _) _
          have HZ0 : Hid (W0.heap[w.heap.size]? = some (.cells #[.int .i64 0, .int .i64 0, .bool false, .slice none 0 0, .slice none 0 0] 34 (0, 0))) := Lib.hid (by rw [hW0]; exact blk_new _ _)
          have HS0 : Hid (w.heap.size + 1 ≤ W0.heap.size) := Lib.hid (by rw [hW0]; simp)
          have HB0 := Lib.hid hb0
          clear hW0 hb0
          with_reducible refine (HCn1.out W0).mono ?_
          rintro e W1 h_
          obtain ⟨An1_3, cn1_3, An1_4, cn1_4, rfl, hl, hB⟩ := h_.open
          have HLn1_1 := Lib.hid (hl.low HS0.out)
          have HZ1 := Lib.hid (blk_below HZ0.out hB)
          have HB1 := Lib.hid (HB0.out.trans (hB.mono HB0.out.size))
          have HS1 : Hid (w.heap.size + 1 ≤ W1.heap.size) := Lib.hid (by have := hB.size; have := HS0.out; omega)
          clear h_ hl hB))
    | (go_at_call 37
       first
       | (with_reducible refine (HCo1.out W1).mono ?_
          rintro e W2 h_
          obtain ⟨Ao1_3, co1_3, Ao1_4, co1_4, rfl, hl, hB⟩ := h_.open
          have HLo1_2 := Lib.hid (hl.low HS1.out)
          have HLn1_2 := Lib.hid (HLn1_1.out.below hB)
          have HZ2 := Lib.hid (blk_below HZ1.out hB)
          have HB2 := Lib.hid (HB1.out.trans (hB.mono HB1.out.size))
          have HS2 : Hid (w.heap.size + 1 ≤ W2.heap.size) := Lib.hid (by have := hB.size; have := HS1.out; omega)
          clear h_ hl hB)
       | (with_reducible refine (HCo2.out W2).mono ?_
          rintro e W3 h_
          obtain ⟨Ao2_3, co2_3, Ao2_4, co2_4, rfl, hl, hB⟩ := h_.open
          have HLo2_3 := Lib.hid (hl.low HS2.out)
          have HLn1_3 := Lib.hid (HLn1_2.out.below hB)
          have HLo1_3 := Lib.hid (HLo1_2.out.below hB)
          have HZ3 := Lib.hid (blk_below HZ2.out hB)
          have HB3 := Lib.hid (HB2.out.trans (hB.mono HB2.out.size))
          have HS3 : Hid (w.heap.size + 1 ≤ W3.heap.size) := Lib.hid (by have := hB.size; have := HS2.out; omega)
          clear h_ hl hB))
    | (go_at_call 53
       first
       | (obtain ⟨V3, hV⟩ : ∃ V, V = W3.alloc (.cells #[.int .i64 n1.f0, .int .i64 n1.f1, .bool n1.f2, .slice An1_3 n1.f3.length cn1_3, .slice An1_4 n1.f4.length cn1_4, .int .i64 o1.f0, .int .i64 o1.f1, .bool o1.f2, .slice Ao1_3 o1.f3.length co1_3, .slice Ao1_4 o1.f4.length co1_4, .int .i64 o2.f0, .int .i64 o2.f1, .bool o2.f2, .slice Ao2_3 o2.f3.length co2_3, .slice Ao2_4 o2.f4.length co2_4] 34) := ⟨_, rfl⟩
          rw [← hV]
          have hbV : Below W3.heap.size W3 V3 := by rw [hV]; exact below_alloc (Below.refl _ _) _
          have hzV : V3.heap[W3.heap.size]? = some (.cells #[.int .i64 n1.f0, .int .i64 n1.f1, .bool n1.f2, .slice An1_3 n1.f3.length cn1_3, .slice An1_4 n1.f4.length cn1_4, .int .i64 o1.f0, .int .i64 o1.f1, .bool o1.f2, .slice Ao1_3 o1.f3.length co1_3, .slice Ao1_4 o1.f4.length co1_4, .int .i64 o2.f0, .int .i64 o2.f1, .bool o2.f2, .slice Ao2_3 o2.f3.length co2_3, .slice Ao2_4 o2.f4.length co2_4] 34 (0, 0)) := by rw [hV]; exact blk_new _ _
          clear hV
          with_reducible refine (HCr1.out _ _ V3 (F3 hzV HS3.out (HLn1_3.out.below hbV) (HLo1_3.out.below hbV) (HLo2_3.out.below hbV)) (Nat.le_refl _) (Nat.le_trans HS3.out hbV.size)).mono ?_
          rintro e W4 h_
          obtain ⟨Ar1_3, cr1_3, Ar1_4, cr1_4, rfl, hl, hB⟩ := h_.open
          replace hB := hbV.trans (hB.mono hbV.size)
          have HLr1_4 := Lib.hid hl
          have HZ4 := Lib.hid (blk_below HZ3.out hB)
          have HB4 := Lib.hid (HB3.out.trans (hB.mono HB3.out.size))
          have HS4 : Hid (w.heap.size + 1 ≤ W4.heap.size) := Lib.hid (by have := hB.size; have := HS3.out; omega)
          have k0 : W4.cell? ⟨w.heap.size, 0, none⟩ = some (.int .i64 0) := blk_cell HZ4.out 0
          have kf0 := blk_frozen HZ4.out 0
          have k1 : W4.cell? ⟨w.heap.size, 1, none⟩ = some (.int .i64 0) := blk_cell HZ4.out 1
          have kf1 := blk_frozen HZ4.out 1
          have k2 : W4.cell? ⟨w.heap.size, 2, none⟩ = some (.bool false) := blk_cell HZ4.out 2
          have kf2 := blk_frozen HZ4.out 2
          have k3 : W4.cell? ⟨w.heap.size, 3, none⟩ = some (.slice none 0 0) := blk_cell HZ4.out 3
          have kf3 := blk_frozen HZ4.out 3
          have k4 : W4.cell? ⟨w.heap.size, 4, none⟩ = some (.slice none 0 0) := blk_cell HZ4.out 4
          have kf4 := blk_frozen HZ4.out 4
          clear h_ hl hB)))
  obtain ⟨h5, hend⟩ := nw_end (b := w.heap.size) (B := w.heap.size + 1) (n := w.heap.size) (x := r1) HB4.out (Nat.le_refl _) (fun k hk => by omega) (Nat.le_succ _) HZ4.out HLr1_4.out.1 HLr1_4.out.2.1 HLr1_4.out.2.2.1 HLr1_4.out.2.2.2 rfl
  try simp only [Exit.inBlock, Exit.then]
  exact bodyPost_ret (results_c rfl _ _ _ _ _ _ _ rfl h5 Tryz.underlying34 rfl size34) rfl hend

end Go.Proofs.YteockihoefbmdaaGreatDoor.Ber
namespace Go.Proofs.YteockihoefbmdaaGreatDoor.Within
open Go.RowKit Go.Proofs.YteockihoefbmdaaGreatDoorW.PrintWords Go.Proofs.YteockihoefbmdaaGreatDoor.PFnEncode Go.Proofs.YteockihoefbmdaaGreatDoor.Tree Go.Proofs.YteockihoefbmdaaGreatDoor.Buf Go.Proofs.YteockihoefbmdaaGreatDoor.Num
set_option linter.unusedVariables false
set_option linter.unusedSimpArgs false

/-- texts of at most 200 bytes, at most 20 of them -/
def shortT (l : List ByteArray) : Bool := l.all (fun s => decide (s.size ≤ 200)) && decide (l.length ≤ 20)

theorem short_l0 (x0 : List ByteArray) : ∀ (l pre : List ByteArray), pre.length + l.length < 4611686018427387904 → laws_short.l0 (l.length + 1) x0 (pre ++ l) ((pre ++ l).length : Int) (pre.length : Int) = some (l.all (fun s => decide (s.size ≤ 200)) && decide (x0.length ≤ 20)) := by
  intro l
  induction l with
  | nil =>
    intro pre _
    unfold laws_short.l0
    rw [if_neg (by simp)]
    simp
    omega
  | cons s l ih =>
    intro pre hl
    rw [List.length_cons] at hl
    unfold laws_short.l0
    rw [if_pos (by simp; omega), if_pos (by omega), if_pos (by simp; omega)]
    have e : rdOf ByteArray.empty (pre ++ s :: l) (pre.length : Int) = s := by
      unfold rdOf
      simp
    rw [e]
    by_cases hs : (s.size : Int) > 200
    · rw [if_pos hs]
      simp
      omega
    · rw [if_neg hs]
      have e2 : wrap64 ((pre.length : Int) + 1) = ((pre ++ [s]).length : Int) := by
        unfold wrap64
        simp
        omega
      have e3 : pre ++ s :: l = (pre ++ [s]) ++ l := by simp
      rw [e2, e3, List.length_cons, ih (pre ++ [s]) (by simp; omega)]
      have : decide (s.size ≤ 200) = true := by simp; omega
      simp [this]

theorem short_any (l : List ByteArray) (A : Option Addr) (c : Nat) (w : World) (h : Kd.C Kd.string w A l.length l) (hl : l.length ≤ c) (hn : l.length < 1000000) :
    Calls Tryz.prog 7 #[.slice A l.length c] w fun e w' => e = .returned (.bool (shortT l)) ∧ Below w.heap.size w w' := by
  have hs : laws_short.f (l.length + 1) l = some (shortT l) := by
    unfold laws_short.f shortT
    have := short_l0 l l [] (by simp; omega)
    simpa using this
  refine (laws_short.calls _ A c l _ w h hl hs).mono ?_
  rintro e w' ⟨rfl, ⟨nd, rfl⟩⟩
  exact ⟨rfl, pw_below_drewN (Below.refl _ _) _⟩

/-- texts beside each other in a block -/
theorem strs_block {W : World} {n : Nat} {l : List ByteArray} {arr : Array Value} (hb : W.heap[n]? = some (.cells arr 9 (0, 0))) (ha : arr.toList = l.map Value.string) (hm : l.length ≤ 9223372036854775807) : Kd.C Kd.string W (some ⟨n, 0, none⟩) l.length l := by
  refine ⟨rfl, hm, fun _ => ⟨⟨n, 0, none⟩, rfl, fun j p hj => ⟨[.string p], rfl, rfl, fun i u hu => ?_⟩⟩⟩
  have hi : i = 0 := by
    have := (List.getElem?_eq_some_iff.1 hu).1
    simpa using this
  subst hi
  have hu' : Value.string p = u := by simpa using hu
  subst hu'
  have h1 := blk_cell hb j
  rw [← Array.getElem?_toList, ha, List.getElem?_map, hj] at h1
  have e : (Addr.add ⟨n, 0, none⟩ (j * Kd.string.sz + 0)) = ⟨n, j, none⟩ := by
    show Addr.add ⟨n, 0, none⟩ (j * 1 + 0) = _
    unfold Addr.add
    simp
    intros
    omega
  rw [e, h1]
  rfl
end Go.Proofs.YteockihoefbmdaaGreatDoor.Within
namespace Go.Proofs.YteockihoefbmdaaGreatDoor.PFnEncode
open Go.RowKit Go.Proofs.YteockihoefbmdaaGreatDoorW.PrintWords Go.Proofs.YteockihoefbmdaaGreatDoorW.PrintLast Go.Proofs.YteockihoefbmdaaGreatDoorW.PrintMore
attribute [local go_sem] max2_int min2_int max_two min_two max_three min_three max_four min_four   -- for this text's walks alone
set_option linter.unusedVariables false
set_option linter.unusedSimpArgs false

/-! ### goldap_NewControlString: function 68 -/
/-! ### goldap_NewControlPaging: function 69 -/
-- NOT PRINTED: function 70 (goldap_ControlPaging_SetCookie)

/-! ### goldap_NewControlManageDsaIT: function 71 -/
-- NOT PRINTED: function 72 (goldap_NewControlMicrosoftNotification)

-- NOT PRINTED: function 73 (goldap_NewControlMicrosoftShowDeleted)

-- NOT PRINTED: function 74 (goldap_NewControlMicrosoftServerLinkTTL)

-- NOT PRINTED: function 75 (goldap_NewControlSubtreeDelete)

-- NOT PRINTED: function 41 (impl_control)

-- NOT PRINTED: function 15 (impl_FormatControl)

-- NOT PRINTED: function 44 (spec_Alike)

-- NOT PRINTED: function 76 (laws_within)

-- NOT PRINTED: function 45 (laws_answer)

-- NOT PRINTED: function 16 (laws_same)

-- NOT PRINTED: function 17 (impl_ParseControl)

-- NOT PRINTED: function 4 (laws_FnControl)

/-! ### laws_zzFits12: function 95 -/
/-! ### laws_zzFits11: function 49 -/
/-! ### laws_zzFits13: function 18 -/
/-! ### laws_attribute: function 22 -/
end Go.Proofs.YteockihoefbmdaaGreatDoor.PFnEncode
namespace Go.Proofs.YteockihoefbmdaaGreatDoor.PFnEncode
open Go.RowKit Go.Proofs.YteockihoefbmdaaGreatDoorW.PrintWords Go.Proofs.YteockihoefbmdaaGreatDoorW.PrintLast Go.Proofs.YteockihoefbmdaaGreatDoorW.PrintMore
attribute [local go_sem] max2_int min2_int max_two min_two max_three min_three max_four min_four   -- for this text's walks alone
set_option linter.unusedVariables false
set_option linter.unusedSimpArgs false

/-! ### laws_attributes: function 19 -/
-- NOT PRINTED: function 20 (impl_Entry)

/-! ### spec_Group: function 119 -/
-- NOT PRINTED: function 98 (spec_listed)

-- NOT PRINTED: function 52 (spec_Add)

-- NOT PRINTED: function 21 (spec_Entry)

-- NOT PRINTED: function 5 (laws_FnEntry)

/-! ### spec_Response: function 23 -/
def spec_Response.f (a0 : Int) : Option (Bool) := if a0 = 1 then (some true) else (if a0 = 5 then (some true) else (if a0 = 7 then (some true) else (if a0 = 9 then (some true) else (if a0 = 11 then (some true) else (if a0 = 13 then (some true) else (some (a0 == 15)))))))
set_option maxHeartbeats 8000000 in
set_option maxRecDepth 100000 in
theorem spec_Response.calls (a0 : Int) (r : Bool) (w : World) (h : spec_Response.f a0 = some r) :
    Calls Tryz.prog 23 #[.int .i64 a0] w fun e w' => e = .returned (.bool r) ∧ Drawn0 w w' := by
  have H : (if a0 = 1 then (some true) else (if a0 = 5 then (some true) else (if a0 = 7 then (some true) else (if a0 = 9 then (some true) else (if a0 = 11 then (some true) else (if a0 = 13 then (some true) else (some (a0 == 15)))))))) = some r := h
  clear h
  by_cases c2 : a0 = 1
  · rw [if_pos c2] at H
    have c2b0 : (a0 == 1) = true := beq_iff_eq.mpr c2
    have c2b1 : (a0 != 1) = false := bne_eq_false_iff_eq.mpr c2
    clear c2
    obtain rfl := Option.some.inj H
    go_enter Tryz.func23, Tryz.ntmps23
    go_wp2
    go_ret
    exact ⟨by first | rfl | (simp; done) | (simp [*]; done), by repeat (first | exact Drawn0.refl _ | apply Drawn0.step)⟩
  · rw [if_neg c2] at H
    have c2b0 : (a0 == 1) = false := beq_eq_false_iff_ne.mpr c2
    have c2b1 : (a0 != 1) = true := bne_iff_ne.mpr c2
    by_cases c3 : a0 = 5
    · rw [if_pos c3] at H
      have c3b0 : (a0 == 5) = true := beq_iff_eq.mpr c3
      have c3b1 : (a0 != 5) = false := bne_eq_false_iff_eq.mpr c3
      clear c3
      obtain rfl := Option.some.inj H
      go_enter Tryz.func23, Tryz.ntmps23
      go_wp2
      go_ret
      exact ⟨by first | rfl | (simp; done) | (simp [*]; done), by repeat (first | exact Drawn0.refl _ | apply Drawn0.step)⟩
    · rw [if_neg c3] at H
      have c3b0 : (a0 == 5) = false := beq_eq_false_iff_ne.mpr c3
      have c3b1 : (a0 != 5) = true := bne_iff_ne.mpr c3
      by_cases c4 : a0 = 7
      · rw [if_pos c4] at H
        have c4b0 : (a0 == 7) = true := beq_iff_eq.mpr c4
        have c4b1 : (a0 != 7) = false := bne_eq_false_iff_eq.mpr c4
        clear c4
        obtain rfl := Option.some.inj H
        go_enter Tryz.func23, Tryz.ntmps23
        go_wp2
        go_ret
        exact ⟨by first | rfl | (simp; done) | (simp [*]; done), by repeat (first | exact Drawn0.refl _ | apply Drawn0.step)⟩
      · rw [if_neg c4] at H
        have c4b0 : (a0 == 7) = false := beq_eq_false_iff_ne.mpr c4
        have c4b1 : (a0 != 7) = true := bne_iff_ne.mpr c4
        by_cases c5 : a0 = 9
        · rw [if_pos c5] at H
          have c5b0 : (a0 == 9) = true := beq_iff_eq.mpr c5
          have c5b1 : (a0 != 9) = false := bne_eq_false_iff_eq.mpr c5
          clear c5
          obtain rfl := Option.some.inj H
          go_enter Tryz.func23, Tryz.ntmps23
          go_wp2
          go_ret
          exact ⟨by first | rfl | (simp; done) | (simp [*]; done), by repeat (first | exact Drawn0.refl _ | apply Drawn0.step)⟩
        · rw [if_neg c5] at H
          have c5b0 : (a0 == 9) = false := beq_eq_false_iff_ne.mpr c5
          have c5b1 : (a0 != 9) = true := bne_iff_ne.mpr c5
          by_cases c6 : a0 = 11
          · rw [if_pos c6] at H
            have c6b0 : (a0 == 11) = true := beq_iff_eq.mpr c6
            have c6b1 : (a0 != 11) = false := bne_eq_false_iff_eq.mpr c6
            clear c6
            obtain rfl := Option.some.inj H
            go_enter Tryz.func23, Tryz.ntmps23
            go_wp2
            go_ret
            exact ⟨by first | rfl | (simp; done) | (simp [*]; done), by repeat (first | exact Drawn0.refl _ | apply Drawn0.step)⟩
          · rw [if_neg c6] at H
            have c6b0 : (a0 == 11) = false := beq_eq_false_iff_ne.mpr c6
            have c6b1 : (a0 != 11) = true := bne_iff_ne.mpr c6
            by_cases c7 : a0 = 13
            · rw [if_pos c7] at H
              have c7b0 : (a0 == 13) = true := beq_iff_eq.mpr c7
              have c7b1 : (a0 != 13) = false := bne_eq_false_iff_eq.mpr c7
              clear c7
              obtain rfl := Option.some.inj H
              go_enter Tryz.func23, Tryz.ntmps23
              go_wp2
              go_ret
              exact ⟨by first | rfl | (simp; done) | (simp [*]; done), by repeat (first | exact Drawn0.refl _ | apply Drawn0.step)⟩
            · rw [if_neg c7] at H
              have c7b0 : (a0 == 13) = false := beq_eq_false_iff_ne.mpr c7
              have c7b1 : (a0 != 13) = true := bne_iff_ne.mpr c7
              obtain rfl := Option.some.inj H
              go_enter Tryz.func23, Tryz.ntmps23
              go_wp2
              go_ret
              exact ⟨by first | rfl | (simp; done) | (simp [*]; done), by repeat (first | exact Drawn0.refl _ | apply Drawn0.step)⟩

-- NOT PRINTED: function 25 (impl_Result)

-- NOT PRINTED: function 26 (impl_Failure)

-- NOT PRINTED: function 6 (laws_FnResult)

end Go.Proofs.YteockihoefbmdaaGreatDoor.PFnEncode
