/- Parts of the proof of one law, in the order in which they build. spec.Message: the packet of a message. · spec.Result with its row of packets; spec.Answer. · Plain maths: the message of an answer to an extended request, decoded; impl.Answer at what laws.plain made. · laws.short at a list of texts; a row of texts in a block. · laws.FnAnswer answers true at every argument. -/
import Derived.Test.YteockihoefbmdaaGreatDoorAns1
import Derived.Test.YteockihoefbmdaaGreatDoorAns2
import Derived.Test.YteockihoefbmdaaGreatDoorAns3
import Derived.Test.YteockihoefbmdaaGreatDoorAns4
import Derived.Test.YteockihoefbmdaaGreatDoorAns5
import Derived.Test.YteockihoefbmdaaGreatDoorAns6
import Derived.Test.YteockihoefbmdaaGreatDoorAns7
import Derived.Test.YteockihoefbmdaaGreatDoorAns8
import Derived.Test.YteockihoefbmdaaGreatDoorAns9
import Derived.Test.YteockihoefbmdaaGreatDoorAns10
import Derived.Test.YteockihoefbmdaaGreatDoorAns11
namespace Go.Proofs.YteockihoefbmdaaGreatDoor.Ber
open Go.RowKit Go.Proofs.YteockihoefbmdaaGreatDoorW.PrintWords Go.Proofs.YteockihoefbmdaaGreatDoor.PFnEncode Go.Proofs.YteockihoefbmdaaGreatDoorW.PrintLast Go.Proofs.YteockihoefbmdaaGreatDoor.Tree Go.Proofs.YteockihoefbmdaaGreatDoor.Buf Go.Proofs.YteockihoefbmdaaGreatDoor.Pk Go.Proofs.YteockihoefbmdaaGreatDoor.Within Go.Proofs.YteockihoefbmdaaGreatDoor.Num
set_option linter.unusedVariables false
set_option linter.unusedSimpArgs false

theorem LiesO.fk {ok : Nat → Prop} {W : World} {x : S34} {A3 : Option Addr} {c3 : Nat} {A4 : Option Addr} {c4 : Nat} (h : LiesO ok W x A3 c3 A4 c4) : Kd.FK k34 W ok x (cellsP x A3 c3 A4 c4) := k34_mkF W _ x h.1 h.2.1 h.2.2.1 h.2.2.2
/-- two elements, in a block -/
theorem N_two {α : Type} {d : Kd α} {e : Nat} {W : World} {n base : Nat} {ok : Nat → Prop} {x y : α} {c1 c2 : List Value} (hbl : W.heap[n]? = some (.cells (c1 ++ c2).toArray e (0, 0))) (hb : base ≤ n) (hok : ok n) (hx : Kd.FK d W (fun k => ok k ∧ k ≠ n) x c1) (hy : Kd.FK d W (fun k => ok k ∧ k ≠ n) y c2) : Kd.N d e W base ok (.slice (some ⟨n, 0, none⟩) 2 2) [x, y] := by
  have hlen1 := d.K_len (Kd.FK_now hx)
  have hone1 := d.K_one (Kd.FK_now hx)
  have hlen2 := d.K_len (Kd.FK_now hy)
  have hone2 := d.K_one (Kd.FK_now hy)
  have hl2 : (c1 ++ c2).length = 2 * d.sz := by rw [List.length_append, hlen1, hlen2]; omega
  have away : ∀ k, (ok k ∧ k ≠ n) → ok k ∧ some k ≠ (Value.slice (some ⟨n, 0, none⟩) 2 2).ownBlock := fun k hk => ⟨hk.1, fun he => by
    have : k = n := by simpa [Value.ownBlock] using he
    exact hk.2 this⟩
  refine ⟨fun k hk => ?_, [c1, c2], rfl, ⟨fun k hk => hk.symm, c1 ++ c2, ?_, ?_⟩, fun j y' c' h1 h2 => ?_⟩
  · have : n = k := by simpa [Value.ownBlock] using hk
    rw [← this]
    exact hok
  · exact ⟨hl2, .inr ⟨n, 2, _, rfl, hb, hbl, Nat.le_refl _, by unfold maxLen; omega, by show (c1 ++ c2).toArray.size = 2 * d.sz; simpa using hl2, by rw [List.toList_toArray]; exact List.take_of_length_le (by rw [hl2]; exact Nat.le_refl _)⟩⟩
  · exact Reps.snoc (Reps.snoc (Reps.none _ d.sz) (p := c1) ⟨rfl, hlen1, hone1⟩ hlen1) (p := c2) ⟨rfl, hlen2, hone2⟩ hlen2
  · rcases j with _ | _ | j
    · have e1 : x = y' := by simpa using h1
      have e2 : c1 = c' := by simpa using h2
      subst e1
      subst e2
      exact Kd.FK_mono hx away
    · have e1 : y = y' := by simpa using h1
      have e2 : c2 = c' := by simpa using h2
      subst e1
      subst e2
      exact Kd.FK_mono hy away
    · simp at h1
/-- the result's block holds it -/
theorem msg_end {w W : World} {g base : Nat} {v : Value} {l : List S34} (hb : Below w.heap.size w W) (hN : Kd.N k34 34 W base (fun k => k ≠ w.heap.size + 1 ∧ k ≠ g) v l) (A : Option Addr) (c : Nat) (hv : v = .slice A l.length c) (hc : l.length ≤ c) :
    Got w (tL l) (.returned (.agg #[.int .i64 0, .int .i64 16, .bool true, .slice none 0 0, .slice A l.length c])) (((((W.setCell ⟨w.heap.size + 1, 0, none⟩ (.int .i64 0)).setCell ⟨w.heap.size + 1, 1, none⟩ (.int .i64 16)).setCell ⟨w.heap.size + 1, 2, none⟩ (.bool true)).setCell ⟨w.heap.size + 1, 3, none⟩ (.slice none 0 0)).setCell ⟨w.heap.size + 1, 4, none⟩ (.slice A l.length c)) := by
  subst hv
  obtain ⟨A', c', he, _, _⟩ := Kd.N_reads hN
  injection he with h1 h2 h3
  subst h1
  subst h3
  refine ⟨none, 0, A, c, rfl, Nat.le_refl _, Kd.C_nil _ _, hc, ?_, below5 hb (Nat.le_succ _) _ _ _ _ _⟩
  exact Kd.F_now (Kd.F_step (Kd.N_F hN) (fun k hk _ => heap5 hk.1 _ _ _ _ _))
set_option maxHeartbeats 3200000 in
set_option maxRecDepth 100000 in
theorem sMsg_any (id : Int) (hid : -9223372036854775808 ≤ id ∧ id ≤ 9223372036854775807) (x : S34) (A3 : Option Addr) (c3 : Nat) (A4 : Option Addr) (c4 : Nat) (ss : List S34) (A5 : Option Addr) (c5 : Nat) (w : World)
    (l3 : x.f3.length ≤ c3) (h3 : (Kd.int .u8).C w A3 x.f3.length x.f3) (l4 : x.f4.length ≤ c4) (h4 : k34.C w A4 x.f4.length x.f4) (l5 : ss.length ≤ c5) (h5 : k34.C w A5 ss.length ss) :
    Calls Tryz.prog 11 #[.int .i64 id, .agg #[.int .i64 x.f0, .int .i64 x.f1, .bool x.f2, .slice A3 x.f3.length c3, .slice A4 x.f4.length c4], .slice A5 ss.length c5] w (Got w (msgT id x ss)) := by
  have HLX0 : Hid (LiesO (fun k => k < w.heap.size) w x A3 c3 A4 c4) := Lib.hid ⟨l3, Kd.C_F (Kd.heap_int .u8) h3, l4, Kd.C_F k34_heap h4⟩
  have HSS0 : Hid (Kd.F k34 w (fun k => k < w.heap.size) A5 ss.length ss) := Lib.hid (Kd.C_F k34_heap h5)
  have HL5 := Lib.hid l5
  obtain ⟨x1, hx1⟩ : ∃ x1 : S34, x1 = ⟨0, 2, false, whole id, []⟩ := ⟨_, rfl⟩
  have HNU : Hid (∀ W, Calls Tryz.prog 35 #[.int .i64 id] W (Nw W.heap.size W x1)) := Lib.hid (fun W => by rw [hx1]; exact number_nw id hid W)
  have HM : Hid (msgT id x ss = tL ([x1, x] ++ (if ss.isEmpty then [] else [⟨2, 0, true, [], ss⟩]))) := Lib.hid (by rw [hx1]; rfl)
  obtain ⟨y, hy⟩ : ∃ y, y = msgT id x ss := ⟨_, rfl⟩
  rw [← hy] at HM ⊢
  obtain ⟨W0, hW0⟩ : ∃ W0, W0 = (w.alloc (.cells #[.int .i64 x.f0, .int .i64 x.f1, .bool x.f2, .slice A3 x.f3.length c3, .slice A4 x.f4.length c4] 34)).alloc (.cells #[.int .i64 0, .int .i64 0, .bool false, .slice none 0 0, .slice none 0 0] 34) := ⟨_, rfl⟩
  have hb0 : Below w.heap.size w W0 := by rw [hW0]; exact below_alloc (below_alloc (Below.refl _ _) _) _
  have HB0 := Lib.hid hb0
  have HX0 : Hid (W0.heap[w.heap.size]? = some (.cells #[.int .i64 x.f0, .int .i64 x.f1, .bool x.f2, .slice A3 x.f3.length c3, .slice A4 x.f4.length c4] 34 (0, 0))) := Lib.hid (by rw [hW0]; exact blk_alloc (blk_new _ _) _)
  have HR0 : Hid (W0.heap[w.heap.size + 1]? = some (.cells #[.int .i64 0, .int .i64 0, .bool false, .slice none 0 0, .slice none 0 0] 34 (0, 0))) := Lib.hid (by rw [hW0]; exact two_new _ _ _ _ _)
  have HS1 : Hid (w.heap.size + 1 < W0.drew.heap.size) := Lib.hid (blk_lt HR0.out)
  have HW0 := Lib.hid hW0
  have HB1 : Hid (Below w.heap.size w W0.drew) := Lib.hid hb0.drew
  have HX0d : Hid (W0.drew.heap[w.heap.size]? = some (.cells #[.int .i64 x.f0, .int .i64 x.f1, .bool x.f2, .slice A3 x.f3.length c3, .slice A4 x.f4.length c4] 34 (0, 0))) := Lib.hid HX0.out
  have HR0d : Hid (W0.drew.heap[w.heap.size + 1]? = some (.cells #[.int .i64 0, .int .i64 0, .bool false, .slice none 0 0, .slice none 0 0] 34 (0, 0))) := Lib.hid HR0.out
  have HBR : Hid (Below W0.drew.heap.size W0.drew W0.drew) := Lib.hid (Below.refl _ _)
  have HLX : Hid (LiesO (fun k => k < w.heap.size) W0.drew x A3 c3 A4 c4) := Lib.hid (HLX0.out.below hb0.drew)
  clear hy hx1 hid l3 h3 l4 h4 l5 h5 hW0 hb0 HLX0
  go_enter Tryz.func11, Tryz.ntmps11
  go_upto_region 1 with fail
  rw [← HW0.out]
  refine start_ (n := 7) (S := fun w' => w'.cell? ⟨w.heap.size, 0, none⟩ = some (.int .i64 x.f0) ∧ w'.cell? ⟨w.heap.size, 1, none⟩ = some (.int .i64 x.f1) ∧ w'.cell? ⟨w.heap.size, 2, none⟩ = some (.bool x.f2) ∧ w'.cell? ⟨w.heap.size, 3, none⟩ = some (.slice A3 x.f3.length c3) ∧ w'.cell? ⟨w.heap.size, 4, none⟩ = some (.slice A4 x.f4.length c4)) (ds := []) #[nN,nN,nN,nN,nN,nN,nN] (by kernel_rfl) rfl rfl ⟨blk_cell (HX0d.out) 0, blk_cell (HX0d.out) 1, blk_cell (HX0d.out) 2, blk_cell (HX0d.out) 3, blk_cell (HX0d.out) 4⟩ (fun hHeld => ?_)
  obtain ⟨W1, hW1⟩ : ∃ W1, W1 = W0.drew := ⟨_, rfl⟩
  rw [← hW1] at HB1 HX0d HR0d HBR HS1 HLX hHeld ⊢
  clear hW1
  refine pure_ (i := 0) (N := some 8) (v := ?_) (a' := ?_) #[yY,nN,nN,nN,nN,nN,nN] rfl rfl (by kernel_rfl) (fun _ _ _ h => h) (Or.inl ⟨by rfl, ?_⟩) ?_ ?_
  rotate_left
  · intro w'
    go_simp
    with_reducible rfl
  rotate_left
  · simp only [Act.put, List.setIfInBounds_toArray, List.set_cons_zero, List.set_cons_succ, i64_w, i32_w]
    rfl
  refine take_ (i := 2) (N := some 10) (v := ?_) (a' := ?_) #[yY,nN,yY,nN,nN,nN,nN] rfl rfl (by kernel_rfl) (fun _ _ _ h => h) (Or.inl ⟨by rfl, ?_⟩) hHeld ?_ ?_
  rotate_left
  · rintro w' ⟨s0, s1, s2, s3, s4⟩
    go_simp
    with_reducible rfl
  rotate_left
  · simp only [Act.put, List.setIfInBounds_toArray, List.set_cons_zero, List.set_cons_succ, i64_w, i32_w]
    rfl
  refine join_ (σ := Option Addr × Nat × Option Addr × Nat × Nat × Nat) 1 #[yY,yY,yY,yY,yY,yY,nN] (fun z => [(9, .agg #[.int .i64 x1.f0, .int .i64 x1.f1, .bool x1.f2, .slice z.1 x1.f3.length z.2.1, .slice z.2.2.1 x1.f4.length z.2.2.2.1]), (11, .slice (some ⟨z.2.2.2.2.1, 0, none⟩) 2 2), (12, .agg #[.int .i64 0, .int .i64 16, .bool true, .slice none 0 0, .slice (some ⟨z.2.2.2.2.1, 0, none⟩) 2 2]), (7, .pointer (some ⟨z.2.2.2.2.2, 0, none⟩))]) (fun z w' => Below W1.heap.size W1 w' ∧ LiesO (fun k => W1.heap.size ≤ k ∧ k ≠ z.2.2.2.2.1 ∧ k ≠ z.2.2.2.2.2) w' x1 z.1 z.2.1 z.2.2.1 z.2.2.2.1 ∧ w'.heap[z.2.2.2.2.1]? = some (.cells #[.int .i64 x1.f0, .int .i64 x1.f1, .bool x1.f2, .slice z.1 x1.f3.length z.2.1, .slice z.2.2.1 x1.f4.length z.2.2.2.1, .int .i64 x.f0, .int .i64 x.f1, .bool x.f2, .slice A3 x.f3.length c3, .slice A4 x.f4.length c4] 34 (0, 0)) ∧ w'.heap[z.2.2.2.2.2]? = some (.cells #[.int .i64 0, .int .i64 0, .bool false, .slice none 0 0, .slice none 0 0] 34 (0, 0)) ∧ (W1.heap.size ≤ z.2.2.2.2.1 ∧ W1.heap.size ≤ z.2.2.2.2.2 ∧ z.2.2.2.2.1 ≠ z.2.2.2.2.2)) ?_ ?_
  rotate_left
  · intro hCont
    refine two_ (i := 1) (j := 5) (Ni := some 9) (Nj := some 7) #[yY,yY,yY,nN,nN,nN,nN] #[yY,nN,yY,nN,nN,yY,nN] rfl rfl rfl rfl (by kernel_rfl) (by decide) (by decide) (fun K hK => ?_) (fun K hK => ?_)
    · skip
      refine goes_ Tryz.func35 (by kernel_rfl) rfl #[.int .i64 id] (by rfl) rfl rfl (by simp only [List.map_toArray, List.map_cons, List.map_nil]; rfl) ?_
      with_reducible refine (HNU.out _).mono ?_
      rintro e Wu hu
      obtain ⟨E3, q3, E4, q4, rfl, hlu, hBu⟩ := hu.open
      refine ⟨_, rfl, ?_⟩
      have HBu := Lib.hid ((HBR.out).trans (hBu.mono (HBR.out).size))
      have HLu := Lib.hid hlu.o
      have HZu := Lib.hid hBu.size
      clear hu hlu hBu
      refine hK.out _ _ ⟨blk_cell (blk_below HX0d.out HBu.out) 0, blk_cell (blk_below HX0d.out HBu.out) 1, blk_cell (blk_below HX0d.out HBu.out) 2, blk_cell (blk_below HX0d.out HBu.out) 3, blk_cell (blk_below HX0d.out HBu.out) 4⟩ (fun hHeld => ?_)
      clear hK K
      refine norm_ (a' := ?_) ?_ ?_
      rotate_left
      · show Act.put _ (some 9) _ = _
        simp only [Act.put, List.setIfInBounds_toArray, List.set_cons_zero, List.set_cons_succ, i64_w, i32_w]
        rfl
      refine two_ (i := 3) (j := 5) (Ni := some 11) (Nj := some 7) #[yY,yY,yY,yY,nN,nN,nN] #[yY,yY,yY,nN,nN,yY,nN] rfl rfl rfl rfl (by kernel_rfl) (by decide) (by decide) (fun K hK => ?_) (fun K hK => ?_)
      · skip
        refine value_ (w1 := ?_) (v := ?_) (by rfl) rfl ?_ ?_
        rotate_left 2
        · go_simp
          constructor
          · rfl
          · rfl
        obtain ⟨Wub, hWub⟩ : ∃ W, W = Wu.alloc (.cells #[.int .i64 x1.f0, .int .i64 x1.f1, .bool x1.f2, .slice E3 x1.f3.length q3, .slice E4 x1.f4.length q4, .int .i64 x.f0, .int .i64 x.f1, .bool x.f2, .slice A3 x.f3.length c3, .slice A4 x.f4.length c4] 34) := ⟨_, rfl⟩
        rw [← hWub]
        have hBub : Below Wu.heap.size Wu Wub := by rw [hWub]; exact below_alloc (Below.refl _ _) _
        have HBub := Lib.hid ((HBu.out).trans (hBub.mono (HBu.out).size))
        have HNub : Hid (Wub.heap[Wu.heap.size]? = some (.cells #[.int .i64 x1.f0, .int .i64 x1.f1, .bool x1.f2, .slice E3 x1.f3.length q3, .slice E4 x1.f4.length q4, .int .i64 x.f0, .int .i64 x.f1, .bool x.f2, .slice A3 x.f3.length c3, .slice A4 x.f4.length c4] 34 (0, 0))) := Lib.hid (by rw [hWub]; exact blk_new _ _)
        have HZub : Hid (Wub.heap.size = Wu.heap.size + 1) := Lib.hid (by rw [hWub]; simp)
        have HLub := Lib.hid (HLu.out.below hBub)
        clear hWub hBub
        refine hK.out _ _ ⟨blk_cell (blk_below HX0d.out HBub.out) 0, blk_cell (blk_below HX0d.out HBub.out) 1, blk_cell (blk_below HX0d.out HBub.out) 2, blk_cell (blk_below HX0d.out HBub.out) 3, blk_cell (blk_below HX0d.out HBub.out) 4⟩ (fun hHeld => ?_)
        clear hK K
        refine norm_ (a' := ?_) ?_ ?_
        rotate_left
        · show Act.put _ (some 11) _ = _
          simp only [Act.put, List.setIfInBounds_toArray, List.set_cons_zero, List.set_cons_succ, i64_w, i32_w]
          rfl
        refine two_ (i := 4) (j := 5) (Ni := some 12) (Nj := some 7) #[yY,yY,yY,yY,yY,nN,nN] #[yY,yY,yY,yY,nN,yY,nN] rfl rfl rfl rfl (by kernel_rfl) (by decide) (by decide) (fun K hK => ?_) (fun K hK => ?_)
        · skip
          refine goes_ Tryz.func34 (by kernel_rfl) rfl #[.slice (some ⟨Wu.heap.size, 0, none⟩) 2 2] (by rfl) rfl rfl (by simp only [List.map_toArray, List.map_cons, List.map_nil]; rfl) ?_
          with_reducible refine (list_ex _ 2 2 _).mono ?_
          rintro e Wubl ⟨rfl, hBubl⟩
          refine ⟨_, rfl, ?_⟩
          have HBubl := Lib.hid ((HBub.out).trans (hBubl.mono (HBub.out).size))
          have HZubl := Lib.hid hBubl.size
          have HLubl := Lib.hid (HLub.out.below hBubl)
          have HNubl := Lib.hid (blk_below HNub.out hBubl)
          clear hBubl
          refine hK.out _ _ ⟨blk_cell (blk_below HX0d.out HBubl.out) 0, blk_cell (blk_below HX0d.out HBubl.out) 1, blk_cell (blk_below HX0d.out HBubl.out) 2, blk_cell (blk_below HX0d.out HBubl.out) 3, blk_cell (blk_below HX0d.out HBubl.out) 4⟩ (fun hHeld => ?_)
          clear hK K
          refine norm_ (a' := ?_) ?_ ?_
          rotate_left
          · show Act.put _ (some 12) _ = _
            simp only [Act.put, List.setIfInBounds_toArray, List.set_cons_zero, List.set_cons_succ, i64_w, i32_w]
            rfl
          refine one_ (i := 5) (N := some 7) #[yY,yY,yY,yY,yY,yY,nN] rfl rfl (by kernel_rfl) (by decide) (fun K hK => ?_)
          refine value_ (w1 := ?_) (v := ?_) (by rfl) rfl ?_ ?_
          rotate_left 2
          · go_simp
            constructor
            · rfl
            · rfl
          obtain ⟨Wubla, hWubla⟩ : ∃ W, W = Wubl.alloc (.cells #[.int .i64 0, .int .i64 0, .bool false, .slice none 0 0, .slice none 0 0] 34) := ⟨_, rfl⟩
          rw [← hWubla]
          have hBubla : Below Wubl.heap.size Wubl Wubla := by rw [hWubla]; exact below_alloc (Below.refl _ _) _
          have HBubla := Lib.hid ((HBubl.out).trans (hBubla.mono (HBubl.out).size))
          have HAubla : Hid (Wubla.heap[Wubl.heap.size]? = some (.cells #[.int .i64 0, .int .i64 0, .bool false, .slice none 0 0, .slice none 0 0] 34 (0, 0))) := Lib.hid (by rw [hWubla]; exact blk_new _ _)
          have HZubla : Hid (Wubla.heap.size = Wubl.heap.size + 1) := Lib.hid (by rw [hWubla]; simp)
          have HLubla := Lib.hid (HLubl.out.below hBubla)
          have HNubla := Lib.hid (blk_below HNubl.out hBubla)
          clear hWubla hBubla
          refine hK.out _ _ ⟨blk_cell (blk_below HX0d.out HBubla.out) 0, blk_cell (blk_below HX0d.out HBubla.out) 1, blk_cell (blk_below HX0d.out HBubla.out) 2, blk_cell (blk_below HX0d.out HBubla.out) 3, blk_cell (blk_below HX0d.out HBubla.out) 4⟩ (fun hHeld => ?_)
          clear hK K
          refine norm_ (a' := ?_) ?_ ?_
          rotate_left
          · show Act.put _ (some 7) _ = _
            simp only [Act.put, List.setIfInBounds_toArray, List.set_cons_zero, List.set_cons_succ, i64_w, i32_w]
            rfl
          exact norm_ (by simp only [putAll, Act.put, List.setIfInBounds_toArray, List.set_cons_zero, List.set_cons_succ]) (hCont (E3, q3, E4, q4, Wu.heap.size, Wubl.heap.size) _ ⟨HBubla.out, HLubla.out.mono (fun k hk => by dsimp only at hk ⊢; have z1 := HZu.out; have z2 := HZub.out; have z3 := HZubl.out; have z4 := HZubla.out; have z5 := HBR.out.size; omega), HNubla.out, HAubla.out, by dsimp only; have z1 := HZu.out; have z2 := HZub.out; have z3 := HZubl.out; have z4 := HZubla.out; omega⟩)
        · skip
          refine value_ (w1 := ?_) (v := ?_) (by rfl) rfl ?_ ?_
          rotate_left 2
          · go_simp
            constructor
            · rfl
            · rfl
          obtain ⟨Wuba, hWuba⟩ : ∃ W, W = Wub.alloc (.cells #[.int .i64 0, .int .i64 0, .bool false, .slice none 0 0, .slice none 0 0] 34) := ⟨_, rfl⟩
          rw [← hWuba]
          have hBuba : Below Wub.heap.size Wub Wuba := by rw [hWuba]; exact below_alloc (Below.refl _ _) _
          have HBuba := Lib.hid ((HBub.out).trans (hBuba.mono (HBub.out).size))
          have HAuba : Hid (Wuba.heap[Wub.heap.size]? = some (.cells #[.int .i64 0, .int .i64 0, .bool false, .slice none 0 0, .slice none 0 0] 34 (0, 0))) := Lib.hid (by rw [hWuba]; exact blk_new _ _)
          have HZuba : Hid (Wuba.heap.size = Wub.heap.size + 1) := Lib.hid (by rw [hWuba]; simp)
          have HLuba := Lib.hid (HLub.out.below hBuba)
          have HNuba := Lib.hid (blk_below HNub.out hBuba)
          clear hWuba hBuba
          refine hK.out _ _ ⟨blk_cell (blk_below HX0d.out HBuba.out) 0, blk_cell (blk_below HX0d.out HBuba.out) 1, blk_cell (blk_below HX0d.out HBuba.out) 2, blk_cell (blk_below HX0d.out HBuba.out) 3, blk_cell (blk_below HX0d.out HBuba.out) 4⟩ (fun hHeld => ?_)
          clear hK K
          refine norm_ (a' := ?_) ?_ ?_
          rotate_left
          · show Act.put _ (some 7) _ = _
            simp only [Act.put, List.setIfInBounds_toArray, List.set_cons_zero, List.set_cons_succ, i64_w, i32_w]
            rfl
          refine one_ (i := 4) (N := some 12) #[yY,yY,yY,yY,yY,yY,nN] rfl rfl (by kernel_rfl) (by decide) (fun K hK => ?_)
          refine goes_ Tryz.func34 (by kernel_rfl) rfl #[.slice (some ⟨Wu.heap.size, 0, none⟩) 2 2] (by rfl) rfl rfl (by simp only [List.map_toArray, List.map_cons, List.map_nil]; rfl) ?_
          with_reducible refine (list_ex _ 2 2 _).mono ?_
          rintro e Wubal ⟨rfl, hBubal⟩
          refine ⟨_, rfl, ?_⟩
          have HBubal := Lib.hid ((HBuba.out).trans (hBubal.mono (HBuba.out).size))
          have HZubal := Lib.hid hBubal.size
          have HLubal := Lib.hid (HLuba.out.below hBubal)
          have HNubal := Lib.hid (blk_below HNuba.out hBubal)
          have HAubal := Lib.hid (blk_below HAuba.out hBubal)
          clear hBubal
          refine hK.out _ _ ⟨blk_cell (blk_below HX0d.out HBubal.out) 0, blk_cell (blk_below HX0d.out HBubal.out) 1, blk_cell (blk_below HX0d.out HBubal.out) 2, blk_cell (blk_below HX0d.out HBubal.out) 3, blk_cell (blk_below HX0d.out HBubal.out) 4⟩ (fun hHeld => ?_)
          clear hK K
          refine norm_ (a' := ?_) ?_ ?_
          rotate_left
          · show Act.put _ (some 12) _ = _
            simp only [Act.put, List.setIfInBounds_toArray, List.set_cons_zero, List.set_cons_succ, i64_w, i32_w]
            rfl
          exact norm_ (by simp only [putAll, Act.put, List.setIfInBounds_toArray, List.set_cons_zero, List.set_cons_succ]) (hCont (E3, q3, E4, q4, Wu.heap.size, Wub.heap.size) _ ⟨HBubal.out, HLubal.out.mono (fun k hk => by dsimp only at hk ⊢; have z1 := HZu.out; have z2 := HZub.out; have z3 := HZuba.out; have z4 := HZubal.out; have z5 := HBR.out.size; omega), HNubal.out, HAubal.out, by dsimp only; have z1 := HZu.out; have z2 := HZub.out; have z3 := HZuba.out; have z4 := HZubal.out; omega⟩)
      · skip
        refine value_ (w1 := ?_) (v := ?_) (by rfl) rfl ?_ ?_
        rotate_left 2
        · go_simp
          constructor
          · rfl
          · rfl
        obtain ⟨Wua, hWua⟩ : ∃ W, W = Wu.alloc (.cells #[.int .i64 0, .int .i64 0, .bool false, .slice none 0 0, .slice none 0 0] 34) := ⟨_, rfl⟩
        rw [← hWua]
        have hBua : Below Wu.heap.size Wu Wua := by rw [hWua]; exact below_alloc (Below.refl _ _) _
        have HBua := Lib.hid ((HBu.out).trans (hBua.mono (HBu.out).size))
        have HAua : Hid (Wua.heap[Wu.heap.size]? = some (.cells #[.int .i64 0, .int .i64 0, .bool false, .slice none 0 0, .slice none 0 0] 34 (0, 0))) := Lib.hid (by rw [hWua]; exact blk_new _ _)
        have HZua : Hid (Wua.heap.size = Wu.heap.size + 1) := Lib.hid (by rw [hWua]; simp)
        have HLua := Lib.hid (HLu.out.below hBua)
        clear hWua hBua
        refine hK.out _ _ ⟨blk_cell (blk_below HX0d.out HBua.out) 0, blk_cell (blk_below HX0d.out HBua.out) 1, blk_cell (blk_below HX0d.out HBua.out) 2, blk_cell (blk_below HX0d.out HBua.out) 3, blk_cell (blk_below HX0d.out HBua.out) 4⟩ (fun hHeld => ?_)
        clear hK K
        refine norm_ (a' := ?_) ?_ ?_
        rotate_left
        · show Act.put _ (some 7) _ = _
          simp only [Act.put, List.setIfInBounds_toArray, List.set_cons_zero, List.set_cons_succ, i64_w, i32_w]
          rfl
        refine one_ (i := 3) (N := some 11) #[yY,yY,yY,yY,nN,yY,nN] rfl rfl (by kernel_rfl) (by decide) (fun K hK => ?_)
        refine value_ (w1 := ?_) (v := ?_) (by rfl) rfl ?_ ?_
        rotate_left 2
        · go_simp
          constructor
          · rfl
          · rfl
        obtain ⟨Wuab, hWuab⟩ : ∃ W, W = Wua.alloc (.cells #[.int .i64 x1.f0, .int .i64 x1.f1, .bool x1.f2, .slice E3 x1.f3.length q3, .slice E4 x1.f4.length q4, .int .i64 x.f0, .int .i64 x.f1, .bool x.f2, .slice A3 x.f3.length c3, .slice A4 x.f4.length c4] 34) := ⟨_, rfl⟩
        rw [← hWuab]
        have hBuab : Below Wua.heap.size Wua Wuab := by rw [hWuab]; exact below_alloc (Below.refl _ _) _
        have HBuab := Lib.hid ((HBua.out).trans (hBuab.mono (HBua.out).size))
        have HNuab : Hid (Wuab.heap[Wua.heap.size]? = some (.cells #[.int .i64 x1.f0, .int .i64 x1.f1, .bool x1.f2, .slice E3 x1.f3.length q3, .slice E4 x1.f4.length q4, .int .i64 x.f0, .int .i64 x.f1, .bool x.f2, .slice A3 x.f3.length c3, .slice A4 x.f4.length c4] 34 (0, 0))) := Lib.hid (by rw [hWuab]; exact blk_new _ _)
        have HZuab : Hid (Wuab.heap.size = Wua.heap.size + 1) := Lib.hid (by rw [hWuab]; simp)
        have HLuab := Lib.hid (HLua.out.below hBuab)
        have HAuab := Lib.hid (blk_below HAua.out hBuab)
        clear hWuab hBuab
        refine hK.out _ _ ⟨blk_cell (blk_below HX0d.out HBuab.out) 0, blk_cell (blk_below HX0d.out HBuab.out) 1, blk_cell (blk_below HX0d.out HBuab.out) 2, blk_cell (blk_below HX0d.out HBuab.out) 3, blk_cell (blk_below HX0d.out HBuab.out) 4⟩ (fun hHeld => ?_)
        clear hK K
        refine norm_ (a' := ?_) ?_ ?_
        rotate_left
        · show Act.put _ (some 11) _ = _
          simp only [Act.put, List.setIfInBounds_toArray, List.set_cons_zero, List.set_cons_succ, i64_w, i32_w]
          rfl
        refine one_ (i := 4) (N := some 12) #[yY,yY,yY,yY,yY,yY,nN] rfl rfl (by kernel_rfl) (by decide) (fun K hK => ?_)
        refine goes_ Tryz.func34 (by kernel_rfl) rfl #[.slice (some ⟨Wua.heap.size, 0, none⟩) 2 2] (by rfl) rfl rfl (by simp only [List.map_toArray, List.map_cons, List.map_nil]; rfl) ?_
        with_reducible refine (list_ex _ 2 2 _).mono ?_
        rintro e Wuabl ⟨rfl, hBuabl⟩
        refine ⟨_, rfl, ?_⟩
        have HBuabl := Lib.hid ((HBuab.out).trans (hBuabl.mono (HBuab.out).size))
        have HZuabl := Lib.hid hBuabl.size
        have HLuabl := Lib.hid (HLuab.out.below hBuabl)
        have HNuabl := Lib.hid (blk_below HNuab.out hBuabl)
        have HAuabl := Lib.hid (blk_below HAuab.out hBuabl)
        clear hBuabl
        refine hK.out _ _ ⟨blk_cell (blk_below HX0d.out HBuabl.out) 0, blk_cell (blk_below HX0d.out HBuabl.out) 1, blk_cell (blk_below HX0d.out HBuabl.out) 2, blk_cell (blk_below HX0d.out HBuabl.out) 3, blk_cell (blk_below HX0d.out HBuabl.out) 4⟩ (fun hHeld => ?_)
        clear hK K
        refine norm_ (a' := ?_) ?_ ?_
        rotate_left
        · show Act.put _ (some 12) _ = _
          simp only [Act.put, List.setIfInBounds_toArray, List.set_cons_zero, List.set_cons_succ, i64_w, i32_w]
          rfl
        exact norm_ (by simp only [putAll, Act.put, List.setIfInBounds_toArray, List.set_cons_zero, List.set_cons_succ]) (hCont (E3, q3, E4, q4, Wua.heap.size, Wu.heap.size) _ ⟨HBuabl.out, HLuabl.out.mono (fun k hk => by dsimp only at hk ⊢; have z1 := HZu.out; have z2 := HZua.out; have z3 := HZuab.out; have z4 := HZuabl.out; have z5 := HBR.out.size; omega), HNuabl.out, HAuabl.out, by dsimp only; have z1 := HZu.out; have z2 := HZua.out; have z3 := HZuab.out; have z4 := HZuabl.out; omega⟩)
    · skip
      refine value_ (w1 := ?_) (v := ?_) (by rfl) rfl ?_ ?_
      rotate_left 2
      · go_simp
        constructor
        · rfl
        · rfl
      obtain ⟨Wa, hWa⟩ : ∃ W, W = W1.alloc (.cells #[.int .i64 0, .int .i64 0, .bool false, .slice none 0 0, .slice none 0 0] 34) := ⟨_, rfl⟩
      rw [← hWa]
      have hBa : Below W1.heap.size W1 Wa := by rw [hWa]; exact below_alloc (Below.refl _ _) _
      have HBa := Lib.hid ((HBR.out).trans (hBa.mono (HBR.out).size))
      have HAa : Hid (Wa.heap[W1.heap.size]? = some (.cells #[.int .i64 0, .int .i64 0, .bool false, .slice none 0 0, .slice none 0 0] 34 (0, 0))) := Lib.hid (by rw [hWa]; exact blk_new _ _)
      have HZa : Hid (Wa.heap.size = W1.heap.size + 1) := Lib.hid (by rw [hWa]; simp)
      clear hWa hBa
      refine hK.out _ _ ⟨blk_cell (blk_below HX0d.out HBa.out) 0, blk_cell (blk_below HX0d.out HBa.out) 1, blk_cell (blk_below HX0d.out HBa.out) 2, blk_cell (blk_below HX0d.out HBa.out) 3, blk_cell (blk_below HX0d.out HBa.out) 4⟩ (fun hHeld => ?_)
      clear hK K
      refine norm_ (a' := ?_) ?_ ?_
      rotate_left
      · show Act.put _ (some 7) _ = _
        simp only [Act.put, List.setIfInBounds_toArray, List.set_cons_zero, List.set_cons_succ, i64_w, i32_w]
        rfl
      refine one_ (i := 1) (N := some 9) #[yY,yY,yY,nN,nN,yY,nN] rfl rfl (by kernel_rfl) (by decide) (fun K hK => ?_)
      refine goes_ Tryz.func35 (by kernel_rfl) rfl #[.int .i64 id] (by rfl) rfl rfl (by simp only [List.map_toArray, List.map_cons, List.map_nil]; rfl) ?_
      with_reducible refine (HNU.out _).mono ?_
      rintro e Wau hau
      obtain ⟨E3, q3, E4, q4, rfl, hlau, hBau⟩ := hau.open
      refine ⟨_, rfl, ?_⟩
      have HBau := Lib.hid ((HBa.out).trans (hBau.mono (HBa.out).size))
      have HLau := Lib.hid hlau.o
      have HZau := Lib.hid hBau.size
      have HAau := Lib.hid (blk_below HAa.out hBau)
      clear hau hlau hBau
      refine hK.out _ _ ⟨blk_cell (blk_below HX0d.out HBau.out) 0, blk_cell (blk_below HX0d.out HBau.out) 1, blk_cell (blk_below HX0d.out HBau.out) 2, blk_cell (blk_below HX0d.out HBau.out) 3, blk_cell (blk_below HX0d.out HBau.out) 4⟩ (fun hHeld => ?_)
      clear hK K
      refine norm_ (a' := ?_) ?_ ?_
      rotate_left
      · show Act.put _ (some 9) _ = _
        simp only [Act.put, List.setIfInBounds_toArray, List.set_cons_zero, List.set_cons_succ, i64_w, i32_w]
        rfl
      refine one_ (i := 3) (N := some 11) #[yY,yY,yY,yY,nN,yY,nN] rfl rfl (by kernel_rfl) (by decide) (fun K hK => ?_)
      refine value_ (w1 := ?_) (v := ?_) (by rfl) rfl ?_ ?_
      rotate_left 2
      · go_simp
        constructor
        · rfl
        · rfl
      obtain ⟨Waub, hWaub⟩ : ∃ W, W = Wau.alloc (.cells #[.int .i64 x1.f0, .int .i64 x1.f1, .bool x1.f2, .slice E3 x1.f3.length q3, .slice E4 x1.f4.length q4, .int .i64 x.f0, .int .i64 x.f1, .bool x.f2, .slice A3 x.f3.length c3, .slice A4 x.f4.length c4] 34) := ⟨_, rfl⟩
      rw [← hWaub]
      have hBaub : Below Wau.heap.size Wau Waub := by rw [hWaub]; exact below_alloc (Below.refl _ _) _
      have HBaub := Lib.hid ((HBau.out).trans (hBaub.mono (HBau.out).size))
      have HNaub : Hid (Waub.heap[Wau.heap.size]? = some (.cells #[.int .i64 x1.f0, .int .i64 x1.f1, .bool x1.f2, .slice E3 x1.f3.length q3, .slice E4 x1.f4.length q4, .int .i64 x.f0, .int .i64 x.f1, .bool x.f2, .slice A3 x.f3.length c3, .slice A4 x.f4.length c4] 34 (0, 0))) := Lib.hid (by rw [hWaub]; exact blk_new _ _)
      have HZaub : Hid (Waub.heap.size = Wau.heap.size + 1) := Lib.hid (by rw [hWaub]; simp)
      have HLaub := Lib.hid (HLau.out.below hBaub)
      have HAaub := Lib.hid (blk_below HAau.out hBaub)
      clear hWaub hBaub
      refine hK.out _ _ ⟨blk_cell (blk_below HX0d.out HBaub.out) 0, blk_cell (blk_below HX0d.out HBaub.out) 1, blk_cell (blk_below HX0d.out HBaub.out) 2, blk_cell (blk_below HX0d.out HBaub.out) 3, blk_cell (blk_below HX0d.out HBaub.out) 4⟩ (fun hHeld => ?_)
      clear hK K
      refine norm_ (a' := ?_) ?_ ?_
      rotate_left
      · show Act.put _ (some 11) _ = _
        simp only [Act.put, List.setIfInBounds_toArray, List.set_cons_zero, List.set_cons_succ, i64_w, i32_w]
        rfl
      refine one_ (i := 4) (N := some 12) #[yY,yY,yY,yY,yY,yY,nN] rfl rfl (by kernel_rfl) (by decide) (fun K hK => ?_)
      refine goes_ Tryz.func34 (by kernel_rfl) rfl #[.slice (some ⟨Wau.heap.size, 0, none⟩) 2 2] (by rfl) rfl rfl (by simp only [List.map_toArray, List.map_cons, List.map_nil]; rfl) ?_
      with_reducible refine (list_ex _ 2 2 _).mono ?_
      rintro e Waubl ⟨rfl, hBaubl⟩
      refine ⟨_, rfl, ?_⟩
      have HBaubl := Lib.hid ((HBaub.out).trans (hBaubl.mono (HBaub.out).size))
      have HZaubl := Lib.hid hBaubl.size
      have HLaubl := Lib.hid (HLaub.out.below hBaubl)
      have HNaubl := Lib.hid (blk_below HNaub.out hBaubl)
      have HAaubl := Lib.hid (blk_below HAaub.out hBaubl)
      clear hBaubl
      refine hK.out _ _ ⟨blk_cell (blk_below HX0d.out HBaubl.out) 0, blk_cell (blk_below HX0d.out HBaubl.out) 1, blk_cell (blk_below HX0d.out HBaubl.out) 2, blk_cell (blk_below HX0d.out HBaubl.out) 3, blk_cell (blk_below HX0d.out HBaubl.out) 4⟩ (fun hHeld => ?_)
      clear hK K
      refine norm_ (a' := ?_) ?_ ?_
      rotate_left
      · show Act.put _ (some 12) _ = _
        simp only [Act.put, List.setIfInBounds_toArray, List.set_cons_zero, List.set_cons_succ, i64_w, i32_w]
        rfl
      exact norm_ (by simp only [putAll, Act.put, List.setIfInBounds_toArray, List.set_cons_zero, List.set_cons_succ]) (hCont (E3, q3, E4, q4, Wau.heap.size, W1.heap.size) _ ⟨HBaubl.out, HLaubl.out.mono (fun k hk => by dsimp only at hk ⊢; have z1 := HZa.out; have z2 := HZau.out; have z3 := HZaub.out; have z4 := HZaubl.out; have z5 := HBa.out.size; omega), HNaubl.out, HAaubl.out, by dsimp only; have z1 := HZa.out; have z2 := HZau.out; have z3 := HZaub.out; have z4 := HZaubl.out; omega⟩)
  rintro ⟨E3, q3, E4, q4, nb, g⟩ WF ⟨hBF, hLF, hNF, hAF, hgg⟩
  have HBF := Lib.hid hBF
  have HLF := Lib.hid hLF
  have HNF := Lib.hid hNF
  have HAF := Lib.hid hAF
  have HGG : Hid (W1.heap.size ≤ nb ∧ W1.heap.size ≤ g ∧ nb ≠ g) := Lib.hid hgg
  clear hBF hLF hNF hAF hgg
  have hHeld : WF.cell? ⟨w.heap.size, 0, none⟩ = some (.int .i64 x.f0) ∧ WF.cell? ⟨w.heap.size, 1, none⟩ = some (.int .i64 x.f1) ∧ WF.cell? ⟨w.heap.size, 2, none⟩ = some (.bool x.f2) ∧ WF.cell? ⟨w.heap.size, 3, none⟩ = some (.slice A3 x.f3.length c3) ∧ WF.cell? ⟨w.heap.size, 4, none⟩ = some (.slice A4 x.f4.length c4) := ⟨blk_cell (blk_below HX0d.out HBF.out) 0, blk_cell (blk_below HX0d.out HBF.out) 1, blk_cell (blk_below HX0d.out HBF.out) 2, blk_cell (blk_below HX0d.out HBF.out) 3, blk_cell (blk_below HX0d.out HBF.out) 4⟩
  refine norm_ (a' := ?_) ?_ ?_
  rotate_left
  · simp only [putAll, Act.put, List.setIfInBounds_toArray, List.set_cons_zero, List.set_cons_succ]
    rfl
  refine one_ (i := 6) (N := none) #[yY,yY,yY,yY,yY,yY,yY] rfl rfl (by kernel_rfl) (by decide) (fun K hK => ?_)
  have HBZ : Hid (w.heap.size < g) := Lib.hid (by have h1 := HGG.out; have h2 := HS1.out; omega)
  have r0 := blk_cell HAF.out 0
  have r1 := blk_cell HAF.out 1
  have r2 := blk_cell HAF.out 2
  have r3 := blk_cell HAF.out 3
  have r4 := blk_cell HAF.out 4
  have rf0 := blk_frozen HAF.out 0
  have rf1 := blk_frozen HAF.out 1
  have rf2 := blk_frozen HAF.out 2
  have rf3 := blk_frozen HAF.out 3
  have rf4 := blk_frozen HAF.out 4
  refine skip_ (w1 := ?_) (by rfl) rfl ?_ ?_
  rotate_left
  · go_simp
    rfl
  refine hK.out _ _ ⟨blk_cell (far5 (blk_below HX0d.out HBF.out) (by have := HBZ.out; omega) _ _ _ _ _) 0, blk_cell (far5 (blk_below HX0d.out HBF.out) (by have := HBZ.out; omega) _ _ _ _ _) 1, blk_cell (far5 (blk_below HX0d.out HBF.out) (by have := HBZ.out; omega) _ _ _ _ _) 2, blk_cell (far5 (blk_below HX0d.out HBF.out) (by have := HBZ.out; omega) _ _ _ _ _) 3, blk_cell (far5 (blk_below HX0d.out HBF.out) (by have := HBZ.out; omega) _ _ _ _ _) 4⟩ (fun hHeld => ?_)
  clear hK K
  refine done_ (by kernel_rfl) ?_
  obtain ⟨W2, hW2⟩ : ∃ W2, W2 = (((((WF.setCell ⟨g, 0, none⟩ (.int .i64 0)).setCell ⟨g, 1, none⟩ (.int .i64 16)).setCell ⟨g, 2, none⟩ (.bool true)).setCell ⟨g, 3, none⟩ (.slice none 0 0)).setCell ⟨g, 4, none⟩ (.slice (some ⟨nb, 0, none⟩) 2 2)) := ⟨_, rfl⟩
  rw [← hW2]
  have HG2 : Hid (W2.heap[g]? = some (.cells #[.int .i64 0, .int .i64 16, .bool true, .slice none 0 0, .slice (some ⟨nb, 0, none⟩) 2 2] 34 (0, 0))) := Lib.hid (by rw [hW2]; exact set5 HAF.out _ _ _ _ _)
  have hst : ∀ k, k ≠ g → W2.heap[k]? = WF.heap[k]? := fun k hk => by rw [hW2]; exact heap5 hk _ _ _ _ _
  have hBF : Below w.heap.size w WF := HB1.out.trans (HBF.out.mono HB1.out.size)
  have HB2 : Hid (Below w.heap.size w W2) := Lib.hid (by rw [hW2]; exact below5 hBF (Nat.le_of_lt HBZ.out) _ _ _ _ _)
  have HR2 : Hid (W2.heap[w.heap.size + 1]? = some (.cells #[.int .i64 0, .int .i64 0, .bool false, .slice none 0 0, .slice none 0 0] 34 (0, 0))) := Lib.hid (by rw [hst _ (by have h1 := HGG.out; have h2 := HS1.out; omega)]; exact blk_below HR0d.out HBF.out)
  have HN2 : Hid (Kd.N k34 34 W2 (w.heap.size + 2) (fun k => k ≠ w.heap.size + 1 ∧ k ≠ g) (.slice (some ⟨nb, 0, none⟩) 2 2) [x1, x]) := Lib.hid (by
    have h1 := HGG.out
    have h2 := HS1.out
    refine N_two (c1 := cellsP x1 E3 q3 E4 q4) (c2 := cellsP x A3 c3 A4 c4) (by rw [hst nb h1.2.2]; exact HNF.out) (by omega) ⟨by omega, h1.2.2⟩ ?_ ?_
    · exact Kd.FK_mono (HLF.out.step (fun k hk _ => hst k hk.2.2)).fk (fun k hk => ⟨⟨by have := hk.1; omega, hk.2.2⟩, hk.2.1⟩)
    · exact Kd.FK_mono ((HLX.out.below HBF.out).step (fun k hk _ => hst k (by omega))).fk (fun k hk => ⟨⟨by omega, by omega⟩, by omega⟩))
  have HS2 : Hid (WF.heap.size ≤ W2.heap.size) := Lib.hid (by rw [hW2]; simp)
  have HGL : Hid (g < W2.heap.size) := Lib.hid (blk_lt HG2.out)
  have HRL : Hid (w.heap.size + 1 < W2.heap.size) := Lib.hid (blk_lt HR2.out)
  clear hHeld
  clear hW2 hst hBF r0 r1 r2 r3 r4 rf0 rf1 rf2 rf3 rf4
  clear HAF HNF HLF HBF HX0d HR0d HX0 HR0 HBR
  rcases Nat.eq_zero_or_pos ss.length with h0 | h0
  · have e1 : decide (0 < (ss.length : Int)) = false := decide_eq_false (by omega)
    have e2 : decide (0 < ss.length) = false := decide_eq_false (by omega)
    have HM0 : Hid (y = tL [x1, x]) := Lib.hid (by rw [HM.out, List.eq_nil_of_length_eq_zero h0]; rfl)
    have s0 : W2.cell? ⟨g, 0, none⟩ = some (.int .i64 0) := blk_cell HG2.out 0
    have s1 : W2.cell? ⟨g, 1, none⟩ = some (.int .i64 16) := blk_cell HG2.out 1
    have s2 : W2.cell? ⟨g, 2, none⟩ = some (.bool true) := blk_cell HG2.out 2
    have s3 : W2.cell? ⟨g, 3, none⟩ = some (.slice none 0 0) := blk_cell HG2.out 3
    have s4 : W2.cell? ⟨g, 4, none⟩ = some (.slice (some ⟨nb, 0, none⟩) 2 2) := blk_cell HG2.out 4
    have p0 : W2.cell? ⟨w.heap.size + 1, 0, none⟩ = some (.int .i64 0) := blk_cell HR2.out 0
    have p1 : W2.cell? ⟨w.heap.size + 1, 1, none⟩ = some (.int .i64 0) := blk_cell HR2.out 1
    have p2 : W2.cell? ⟨w.heap.size + 1, 2, none⟩ = some (.bool false) := blk_cell HR2.out 2
    have p3 : W2.cell? ⟨w.heap.size + 1, 3, none⟩ = some (.slice none 0 0) := blk_cell HR2.out 3
    have p4 : W2.cell? ⟨w.heap.size + 1, 4, none⟩ = some (.slice none 0 0) := blk_cell HR2.out 4
    have pf0 : W2.frozen? ⟨w.heap.size + 1, 0, none⟩ = false := blk_frozen HR2.out 0
    have pf1 : W2.frozen? ⟨w.heap.size + 1, 1, none⟩ = false := blk_frozen HR2.out 1
    have pf2 : W2.frozen? ⟨w.heap.size + 1, 2, none⟩ = false := blk_frozen HR2.out 2
    have pf3 : W2.frozen? ⟨w.heap.size + 1, 3, none⟩ = false := blk_frozen HR2.out 3
    have pf4 : W2.frozen? ⟨w.heap.size + 1, 4, none⟩ = false := blk_frozen HR2.out 4
    clear h0
    go_wp2
    try simp only [Exit.inBlock, Exit.then]
    exact bodyPost_ret (results_c rfl _ _ _ _ _ _ _ rfl (set5 HR2.out (.int .i64 0) (.int .i64 16) (.bool true) (.slice none 0 0) (.slice (some ⟨nb, 0, none⟩) 2 2)) Tryz.underlying34 rfl size34) rfl (by rw [HM0.out]; exact msg_end HB2.out HN2.out (some ⟨nb, 0, none⟩) 2 rfl (Nat.le_refl _))
  · have e1 : decide (0 < (ss.length : Int)) = true := decide_eq_true (by omega)
    have e2 : decide (0 < ss.length) = true := decide_eq_true (by omega)
    obtain ⟨z, hz⟩ : ∃ z : S34, z = ⟨2, 0, true, [], ss⟩ := ⟨_, rfl⟩
    have HM0 : Hid (y = tL ([x1, x] ++ [z])) := Lib.hid (by
      rw [HM.out, hz]
      cases hss : ss with
      | nil => rw [hss] at h0; simp at h0
      | cons _ _ => rfl)
    have HK2 : Hid (Kd.FK k34 W2 (fun k => (k ≠ w.heap.size + 1 ∧ k ≠ g) ∧ some k ≠ (Value.slice (some ⟨nb, 0, none⟩) 2 2).ownBlock) z [.int .i64 2, .int .i64 0, .bool true, .slice none 0 0, .slice A5 ss.length c5]) := Lib.hid (by
      have h1 := HGG.out
      have h2 := HS1.out
      have hl : LiesO (fun k => k < w.heap.size) W2 z none 0 A5 c5 := by rw [hz]; exact ⟨Nat.le_refl _, Kd.F_nil _ _ _, HL5.out, Kd.F_below HSS0.out HB2.out⟩
      have hf := hl.fk
      rw [hz] at hf ⊢
      exact Kd.FK_mono hf (fun k hk => ⟨⟨by omega, by have := HBZ.out; omega⟩, fun he => by
        have : k = nb := by simpa [Value.ownBlock] using he
        omega⟩))
    have HFR : Hid (∀ k, W2.heap.size ≤ k → k ≠ w.heap.size + 1 ∧ k ≠ g) := Lib.hid (fun k hk => ⟨by have := HRL.out; omega, by have := HGL.out; omega⟩)
    have HLO : Hid (w.heap.size + 2 ≤ W2.heap.size) := Lib.hid (by have := HRL.out; omega)
    have HNE : Hid (some g ≠ (Value.slice (some ⟨nb, 0, none⟩) 2 2).ownBlock) := Lib.hid (fun he => by
      have h1 := HGG.out
      have : g = nb := by simpa [Value.ownBlock] using he
      omega)
    have HNR : Hid (some (w.heap.size + 1) ≠ (Value.slice (some ⟨nb, 0, none⟩) 2 2).ownBlock) := Lib.hid (fun he => by
      have h1 := HGG.out
      have h2 := HS1.out
      have : w.heap.size + 1 = nb := by simpa [Value.ownBlock] using he
      omega)
    have k4 : W2.cell? ⟨g, 4, none⟩ = some (.slice (some ⟨nb, 0, none⟩) 2 2) := blk_cell HG2.out 4
    clear h0 hz
    go_upto_region 4 with (first
      | ((with_reducible refine gate_builtin (b := .append) (xs := #[.tmp 17, .tmp 20]) rfl ?_)
         at_builtin
         refine Kd.N_append k34 (w0 := W2) (W := W2) (w.heap.size + 2) rfl (.tmp 17) (.tmp 20) 32 34 (.agg #[.int .i64 0, .int .i64 0, .bool false, .slice none 0 0, .slice none 0 0]) 72 rfl Tryz.underlying32 info_sp rfl (show 0 < 5 by decide) (by decide) (.slice (some ⟨nb, 0, none⟩) 2 2) [x1, x] z _ (fun k => k ≠ w.heap.size + 1 ∧ k ≠ g) _ rfl rfl HK2.out (fun _ h => h) HFR.out HN2.out (Below.refl _ _) HLO.out (show (2 + 1) * 72 ≤ 140737488355328 by decide) ?_
         intro v1 w1 hR hb hg hat
         have HG8 := Lib.hid (blk_grown HG2.out hg HNE.out)
         have HR8 := Lib.hid (blk_grown HR2.out hg HNR.out)
         have x0 : w1.cell? ⟨g, 4, none⟩ = some (.slice (some ⟨nb, 0, none⟩) 2 2) := blk_cell HG8.out 4
         have xf : w1.frozen? ⟨g, 4, none⟩ = false := blk_frozen HG8.out 4
         obtain ⟨Aq, cq, hvq⟩ := Kd.N_slice hR
         obtain ⟨n, hn⟩ : ∃ n, n = ([x1, x] ++ [z]).length := ⟨_, rfl⟩
         rw [← hn] at hvq
         subst hvq
         have HN8 := Lib.hid hR
         have HB8 : Hid (Below w.heap.size w w1) := Lib.hid (HB2.out.trans (hb.mono (by omega)))
         have HN := Lib.hid hn
         clear hR hb hg hat hn))
    obtain ⟨W5, hW5⟩ : ∃ W5, W5 = w1.setCell ⟨g, 4, none⟩ (.slice Aq n cq) := ⟨_, rfl⟩
    rw [← hW5]
    have HG5 : Hid (W5.heap[g]? = some (.cells #[.int .i64 0, .int .i64 16, .bool true, .slice none 0 0, .slice Aq n cq] 34 (0, 0))) := Lib.hid (by rw [hW5]; exact blk_set HG8.out 4 _)
    have HR5 : Hid (W5.heap[w.heap.size + 1]? = some (.cells #[.int .i64 0, .int .i64 0, .bool false, .slice none 0 0, .slice none 0 0] 34 (0, 0))) := Lib.hid (by rw [hW5]; exact blk_far HR8.out (p := ⟨g, 4, none⟩) (by have h1 := HGG.out; have h2 := HS1.out; show w.heap.size + 1 ≠ g; omega) _)
    have HN5 : Hid (Kd.N k34 34 W5 (w.heap.size + 2) (fun k => k ≠ w.heap.size + 1 ∧ k ≠ g) (.slice Aq n cq) ([x1, x] ++ [z])) := Lib.hid (by rw [hW5]; exact Kd.N_far HN8.out (p := ⟨g, 4, none⟩) (fun k hk => hk.2) _)
    have HB5 : Hid (Below w.heap.size w W5) := Lib.hid (by rw [hW5]; exact HB8.out.setCell (p := ⟨g, 4, none⟩) (Nat.le_of_lt HBZ.out) _)
    have s0 : W5.cell? ⟨g, 0, none⟩ = some (.int .i64 0) := blk_cell HG5.out 0
    have s1 : W5.cell? ⟨g, 1, none⟩ = some (.int .i64 16) := blk_cell HG5.out 1
    have s2 : W5.cell? ⟨g, 2, none⟩ = some (.bool true) := blk_cell HG5.out 2
    have s3 : W5.cell? ⟨g, 3, none⟩ = some (.slice none 0 0) := blk_cell HG5.out 3
    have s4 : W5.cell? ⟨g, 4, none⟩ = some (.slice Aq n cq) := blk_cell HG5.out 4
    have p0 : W5.cell? ⟨w.heap.size + 1, 0, none⟩ = some (.int .i64 0) := blk_cell HR5.out 0
    have p1 : W5.cell? ⟨w.heap.size + 1, 1, none⟩ = some (.int .i64 0) := blk_cell HR5.out 1
    have p2 : W5.cell? ⟨w.heap.size + 1, 2, none⟩ = some (.bool false) := blk_cell HR5.out 2
    have p3 : W5.cell? ⟨w.heap.size + 1, 3, none⟩ = some (.slice none 0 0) := blk_cell HR5.out 3
    have p4 : W5.cell? ⟨w.heap.size + 1, 4, none⟩ = some (.slice none 0 0) := blk_cell HR5.out 4
    have pf0 : W5.frozen? ⟨w.heap.size + 1, 0, none⟩ = false := blk_frozen HR5.out 0
    have pf1 : W5.frozen? ⟨w.heap.size + 1, 1, none⟩ = false := blk_frozen HR5.out 1
    have pf2 : W5.frozen? ⟨w.heap.size + 1, 2, none⟩ = false := blk_frozen HR5.out 2
    have pf3 : W5.frozen? ⟨w.heap.size + 1, 3, none⟩ = false := blk_frozen HR5.out 3
    have pf4 : W5.frozen? ⟨w.heap.size + 1, 4, none⟩ = false := blk_frozen HR5.out 4
    clear hW5 x0 xf k4
    go_wp2
    try simp only [Exit.inBlock, Exit.then]
    exact bodyPost_ret (results_c rfl _ _ _ _ _ _ _ rfl (set5 HR5.out (.int .i64 0) (.int .i64 16) (.bool true) (.slice none 0 0) (.slice Aq n cq)) Tryz.underlying34 rfl size34) rfl (by rw [HM0.out, HN.out]; exact msg_end HB5.out (HN.out ▸ HN5.out) Aq cq rfl (by
      obtain ⟨_, _, he, hc, _⟩ := Kd.N_reads (HN.out ▸ HN5.out : Kd.N k34 34 W5 (w.heap.size + 2) (fun k => k ≠ w.heap.size + 1 ∧ k ≠ g) (.slice Aq ([x1, x] ++ [z]).length cq) ([x1, x] ++ [z]))
      injection he with h1 h2 h3
      rw [h3]
      exact hc))
end Go.Proofs.YteockihoefbmdaaGreatDoor.Ber
namespace Go.Proofs.YteockihoefbmdaaGreatDoor.Ber
open Go.RowKit Go.Proofs.YteockihoefbmdaaGreatDoorW.PrintWords Go.Proofs.YteockihoefbmdaaGreatDoor.PFnEncode Go.Proofs.YteockihoefbmdaaGreatDoorW.PrintLast Go.Proofs.YteockihoefbmdaaGreatDoor.Tree Go.Proofs.YteockihoefbmdaaGreatDoor.Buf Go.Proofs.YteockihoefbmdaaGreatDoor.Pk Go.Proofs.YteockihoefbmdaaGreatDoor.Within Go.Proofs.YteockihoefbmdaaGreatDoor.Num
set_option linter.unusedVariables false
set_option linter.unusedSimpArgs false
/-- three elements, in a block -/
theorem N_three {α : Type} {d : Kd α} {e : Nat} {W : World} {n base : Nat} {ok : Nat → Prop} {x y z : α} {c1 c2 c3 : List Value} (hbl : W.heap[n]? = some (.cells (c1 ++ c2 ++ c3).toArray e (0, 0))) (hb : base ≤ n) (hok : ok n) (hx : Kd.FK d W (fun k => ok k ∧ k ≠ n) x c1) (hy : Kd.FK d W (fun k => ok k ∧ k ≠ n) y c2) (hz : Kd.FK d W (fun k => ok k ∧ k ≠ n) z c3) : Kd.N d e W base ok (.slice (some ⟨n, 0, none⟩) 3 3) [x, y, z] := by
  have hlen1 := d.K_len (Kd.FK_now hx)
  have hone1 := d.K_one (Kd.FK_now hx)
  have hlen2 := d.K_len (Kd.FK_now hy)
  have hone2 := d.K_one (Kd.FK_now hy)
  have hlen3 := d.K_len (Kd.FK_now hz)
  have hone3 := d.K_one (Kd.FK_now hz)
  have hl3 : (c1 ++ c2 ++ c3).length = 3 * d.sz := by rw [List.length_append, List.length_append, hlen1, hlen2, hlen3]; omega
  have away : ∀ k, (ok k ∧ k ≠ n) → ok k ∧ some k ≠ (Value.slice (some ⟨n, 0, none⟩) 3 3).ownBlock := fun k hk => ⟨hk.1, fun he => by
    have : k = n := by simpa [Value.ownBlock] using he
    exact hk.2 this⟩
  refine ⟨fun k hk => ?_, [c1, c2, c3], rfl, ⟨fun k hk => hk.symm, c1 ++ c2 ++ c3, ?_, ?_⟩, fun j y' c' h1 h2 => ?_⟩
  · have : n = k := by simpa [Value.ownBlock] using hk
    rw [← this]
    exact hok
  · exact ⟨hl3, .inr ⟨n, 3, _, rfl, hb, hbl, Nat.le_refl _, by unfold maxLen; omega, by show (c1 ++ c2 ++ c3).toArray.size = 3 * d.sz; simpa using hl3, by rw [List.toList_toArray]; exact List.take_of_length_le (by rw [hl3]; exact Nat.le_refl _)⟩⟩
  · exact Reps.snoc (Reps.snoc (Reps.snoc (Reps.none _ d.sz) (p := c1) ⟨rfl, hlen1, hone1⟩ hlen1) (p := c2) ⟨rfl, hlen2, hone2⟩ hlen2) (p := c3) ⟨rfl, hlen3, hone3⟩ hlen3
  · rcases j with _ | _ | _ | j
    · have e1 : x = y' := by simpa using h1
      have e2 : c1 = c' := by simpa using h2
      subst e1
      subst e2
      exact Kd.FK_mono hx away
    · have e1 : y = y' := by simpa using h1
      have e2 : c2 = c' := by simpa using h2
      subst e1
      subst e2
      exact Kd.FK_mono hy away
    · have e1 : z = y' := by simpa using h1
      have e2 : c3 = c' := by simpa using h2
      subst e1
      subst e2
      exact Kd.FK_mono hz away
    · simp at h1
set_option maxHeartbeats 3200000 in
set_option maxRecDepth 100000 in
theorem sResN (tag code : Int) (ma me : ByteArray) (w : World) (hcode : 0 ≤ code ∧ code ≤ 1000) (hma : ma.size ≤ 140737488355328) (hme : me.size ≤ 140737488355328) :
    Calls Tryz.prog 24 #[.int .i64 tag, .int .i64 code, .string ma, .string me] w fun e w' => ∃ n0, e = .returned (.agg #[.int .i64 1, .int .i64 tag, .bool true, .slice none 0 0, .slice (some ⟨n0, 0, none⟩) 3 3]) ∧ Kd.N k34 34 w' (w.heap.size + 1) (fun k => w.heap.size + 1 ≤ k) (.slice (some ⟨n0, 0, none⟩) 3 3) [tC code, tO ma, tO me] ∧ Below w.heap.size w w' := by
  have HCn1 : Hid (∀ W, Calls Tryz.prog 54 #[.int .i64 code] W (Nw W.heap.size W (tC code))) := Lib.hid (fun W => code_nw code (by omega) W)
  obtain ⟨n1, hxn1⟩ : ∃ y_, y_ = (tC code) := ⟨_, rfl⟩
  rw [← hxn1] at HCn1
  have HCo1 : Hid (∀ W, Calls Tryz.prog 37 #[.string ma] W (Nw W.heap.size W (tO ma))) := Lib.hid (fun W => octets_nw ma W (by omega))
  obtain ⟨o1, hxo1⟩ : ∃ y_, y_ = (tO ma) := ⟨_, rfl⟩
  rw [← hxo1] at HCo1
  have HCo2 : Hid (∀ W, Calls Tryz.prog 37 #[.string me] W (Nw W.heap.size W (tO me))) := Lib.hid (fun W => octets_nw me W (by omega))
  obtain ⟨o2, hxo2⟩ : ∃ y_, y_ = (tO me) := ⟨_, rfl⟩
  rw [← hxo2] at HCo2
  have HX : Hid ([tC code, tO ma, tO me] = [n1, o1, o2]) := Lib.hid (by rw [hxn1, hxo1, hxo2])
  clear hcode hma hme hxn1 hxo1 hxo2
  go_enter Tryz.func24, Tryz.ntmps24
  go_wp2_with (first
    | (go_at_call 54
       first
       | (obtain ⟨W0, hW0⟩ : ∃ W0, W0 = w.alloc (.cells #[.int .i64 0, .int .i64 0, .bool false, .slice none 0 0, .slice none 0 0] 34) := ⟨_, rfl⟩
          rw [← hW0]
          have hb0 : Below w.heap.size w W0 := by rw [hW0]; exact below_alloc (Below.refl _ _) _
          have HZ0 : Hid (W0.heap[w.heap.size]? = some (.cells #[.int .i64 0, .int .i64 0, .bool false, .slice none 0 0, .slice none 0 0] 34 (0, 0))) := Lib.hid (by rw [hW0]; exact blk_new _ _)
          have HS0 : Hid (w.heap.size + 1 ≤ W0.heap.size) := Lib.hid (by rw [hW0]; simp)
          have HB0 := Lib.hid hb0
          clear hW0 hb0
          with_reducible refine (HCn1.out W0).mono ?_
          rintro e W1 h_
          obtain ⟨An1_3, cn1_3, An1_4, cn1_4, rfl, hl, hB⟩ := h_.open
          have HLn1_1 := Lib.hid (hl.low HS0.out)
          have HZ1 := Lib.hid (blk_below HZ0.out hB)
          have HB1 := Lib.hid (HB0.out.trans (hB.mono HB0.out.size))
          have HS1 : Hid (w.heap.size + 1 ≤ W1.heap.size) := Lib.hid (by have := hB.size; have := HS0.out; omega)
          clear h_ hl hB))
    | (go_at_call 37
       first
       | (with_reducible refine (HCo1.out W1).mono ?_
          rintro e W2 h_
          obtain ⟨Ao1_3, co1_3, Ao1_4, co1_4, rfl, hl, hB⟩ := h_.open
          have HLo1_2 := Lib.hid (hl.low HS1.out)
          have HLn1_2 := Lib.hid (HLn1_1.out.below hB)
          have HZ2 := Lib.hid (blk_below HZ1.out hB)
          have HB2 := Lib.hid (HB1.out.trans (hB.mono HB1.out.size))
          have HS2 : Hid (w.heap.size + 1 ≤ W2.heap.size) := Lib.hid (by have := hB.size; have := HS1.out; omega)
          clear h_ hl hB)
       | (with_reducible refine (HCo2.out W2).mono ?_
          rintro e W3 h_
          obtain ⟨Ao2_3, co2_3, Ao2_4, co2_4, rfl, hl, hB⟩ := h_.open
          have HLo2_3 := Lib.hid (hl.low HS2.out)
          have HLn1_3 := Lib.hid (HLn1_2.out.below hB)
          have HLo1_3 := Lib.hid (HLo1_2.out.below hB)
          have HZ3 := Lib.hid (blk_below HZ2.out hB)
          have HB3 := Lib.hid (HB2.out.trans (hB.mono HB2.out.size))
          have HS3 : Hid (w.heap.size + 1 ≤ W3.heap.size) := Lib.hid (by have := hB.size; have := HS2.out; omega)
          clear h_ hl hB))
    | (go_at_call 53
       first
       | (obtain ⟨V3, hV⟩ : ∃ V, V = W3.alloc (.cells #[.int .i64 n1.f0, .int .i64 n1.f1, .bool n1.f2, .slice An1_3 n1.f3.length cn1_3, .slice An1_4 n1.f4.length cn1_4, .int .i64 o1.f0, .int .i64 o1.f1, .bool o1.f2, .slice Ao1_3 o1.f3.length co1_3, .slice Ao1_4 o1.f4.length co1_4, .int .i64 o2.f0, .int .i64 o2.f1, .bool o2.f2, .slice Ao2_3 o2.f3.length co2_3, .slice Ao2_4 o2.f4.length co2_4] 34) := ⟨_, rfl⟩
          rw [← hV]
          have hbV : Below W3.heap.size W3 V3 := by rw [hV]; exact below_alloc (Below.refl _ _) _
          have hzV : V3.heap[W3.heap.size]? = some (.cells #[.int .i64 n1.f0, .int .i64 n1.f1, .bool n1.f2, .slice An1_3 n1.f3.length cn1_3, .slice An1_4 n1.f4.length cn1_4, .int .i64 o1.f0, .int .i64 o1.f1, .bool o1.f2, .slice Ao1_3 o1.f3.length co1_3, .slice Ao1_4 o1.f4.length co1_4, .int .i64 o2.f0, .int .i64 o2.f1, .bool o2.f2, .slice Ao2_3 o2.f3.length co2_3, .slice Ao2_4 o2.f4.length co2_4] 34 (0, 0)) := by rw [hV]; exact blk_new _ _
          clear hV
          have hN3 : Kd.N k34 34 V3 (w.heap.size + 1) (fun k => w.heap.size + 1 ≤ k) (.slice (some ⟨W3.heap.size, 0, none⟩) 3 3) [n1, o1, o2] := N_three (c1 := cellsP n1 An1_3 cn1_3 An1_4 cn1_4) (c2 := cellsP o1 Ao1_3 co1_3 Ao1_4 co1_4) (c3 := cellsP o2 Ao2_3 co2_3 Ao2_4 co2_4) hzV HS3.out HS3.out
            (Kd.FK_mono (Kd.FK_below (Kd.FK_bound HLn1_3.out.fk) hbV) (fun k hk => ⟨hk.1, by have := hk.2; omega⟩)) (Kd.FK_mono (Kd.FK_below (Kd.FK_bound HLo1_3.out.fk) hbV) (fun k hk => ⟨hk.1, by have := hk.2; omega⟩)) (Kd.FK_mono (Kd.FK_below (Kd.FK_bound HLo2_3.out.fk) hbV) (fun k hk => ⟨hk.1, by have := hk.2; omega⟩))
          with_reducible refine (operation_ex tag (some ⟨W3.heap.size, 0, none⟩) 3 3 V3).mono ?_
          rintro e W4 ⟨rfl, hB⟩
          have HN4 := Lib.hid (Kd.N_below hN3 hB)
          replace hB := hbV.trans (hB.mono hbV.size)
          have HZ4 := Lib.hid (blk_below HZ3.out hB)
          have HB4 := Lib.hid (HB3.out.trans (hB.mono HB3.out.size))
          have k0 : W4.cell? ⟨w.heap.size, 0, none⟩ = some (.int .i64 0) := blk_cell HZ4.out 0
          have kf0 := blk_frozen HZ4.out 0
          have k1 : W4.cell? ⟨w.heap.size, 1, none⟩ = some (.int .i64 0) := blk_cell HZ4.out 1
          have kf1 := blk_frozen HZ4.out 1
          have k2 : W4.cell? ⟨w.heap.size, 2, none⟩ = some (.bool false) := blk_cell HZ4.out 2
          have kf2 := blk_frozen HZ4.out 2
          have k3 : W4.cell? ⟨w.heap.size, 3, none⟩ = some (.slice none 0 0) := blk_cell HZ4.out 3
          have kf3 := blk_frozen HZ4.out 3
          have k4 : W4.cell? ⟨w.heap.size, 4, none⟩ = some (.slice none 0 0) := blk_cell HZ4.out 4
          have kf4 := blk_frozen HZ4.out 4
          clear hB hN3 hzV hbV)))
  try simp only [Exit.inBlock, Exit.then]
  exact bodyPost_ret (results_c rfl _ _ _ _ _ _ _ rfl (set5 HZ4.out (.int .i64 1) (.int .i64 tag) (.bool true) (.slice none 0 0) (.slice (some ⟨W3.heap.size, 0, none⟩) 3 3)) Tryz.underlying34 rfl size34) rfl ⟨W3.heap.size, rfl, by
    rw [HX.out]
    exact Kd.N_step HN4.out (fun k hk _ => heap5 (by omega) _ _ _ _ _), below5 HB4.out (Nat.le_refl _) _ _ _ _ _⟩
/-- a packet in block g; its kids so far lie from lo on, not in g -/
structure AccL (lo g : Nat) (W : World) (a0 a1 : Int) (a2 : Bool) (v : Value) (l : List S34) : Prop where
  hg : W.heap[g]? = some (.cells #[.int .i64 a0, .int .i64 a1, .bool a2, .slice none 0 0, v] 34 (0, 0))
  row : Kd.N k34 34 W lo (fun k => lo ≤ k ∧ k ≠ g) v l
  le : lo ≤ g
section
variable {lo g : Nat} {W W' w1 : World} {a0 a1 : Int} {a2 : Bool} {v v1 : Value} {l : List S34}
theorem AccL.below (h : AccL lo g W a0 a1 a2 v l) (hb : Below W.heap.size W W') : AccL lo g W' a0 a1 a2 v l := ⟨blk_below h.hg hb, Kd.N_below h.row hb, h.le⟩
theorem AccL.ne (h : AccL lo g W a0 a1 a2 v l) : some g ≠ v.ownBlock := Kd.N_away h.row (fun k hk => hk.2)
theorem AccL.lt (h : AccL lo g W a0 a1 a2 v l) : g < W.heap.size := blk_lt h.hg
theorem AccL.base (h : AccL lo g W a0 a1 a2 v l) : lo ≤ W.heap.size := Nat.le_trans h.le (Nat.le_of_lt h.lt)
theorem AccL.fresh (h : AccL lo g W a0 a1 a2 v l) : ∀ k, W.heap.size ≤ k → lo ≤ k ∧ k ≠ g := fun k hk => ⟨Nat.le_trans h.base hk, by have := h.lt; omega⟩
theorem AccL.app (h : AccL lo g W a0 a1 a2 v l) {x : S34} (hR : Kd.N k34 34 w1 lo (fun k => lo ≤ k ∧ k ≠ g) v1 (l ++ [x])) (hg : W.grownBy w1 v.ownBlock) : AccL lo g (w1.setCell ⟨g, 4, none⟩ v1) a0 a1 a2 v1 (l ++ [x]) :=
  ⟨blk_set (blk_grown h.hg hg h.ne) 4 v1, Kd.N_far hR (p := ⟨g, 4, none⟩) (fun k hk => hk.2) v1, h.le⟩
theorem AccL.kid {b : Nat} {x : S34} {A3 : Option Addr} {c3 : Nat} {A4 : Option Addr} {c4 : Nat} (hx : Lies b W' x A3 c3 A4 c4) (h : AccL lo g W a0 a1 a2 v l) (hb : W.heap.size ≤ b) : Kd.FK k34 W' (fun k => (lo ≤ k ∧ k ≠ g) ∧ some k ≠ v.ownBlock) x (cellsP x A3 c3 A4 c4) :=
  Kd.FK_mono hx.fk (fun k hk => ⟨h.fresh k (Nat.le_trans hb hk), fun e => by have := Kd.N_lt h.row k e.symm; omega⟩)
theorem AccL.lies (h : AccL lo g W a0 a1 a2 v l) : ∃ A c, v = .slice A l.length c ∧ Lies lo W ⟨a0, a1, a2, [], l⟩ none 0 A c := by
  obtain ⟨A, c, rfl, hc, _⟩ := Kd.N_reads h.row
  exact ⟨A, c, rfl, Nat.le_refl _, Kd.F_nil _ _ _, hc, Kd.F_mono (Kd.N_F h.row) (fun k hk => hk.1)⟩
end
theorem str_atS {w : World} {A : Option Addr} {l : List ByteArray} (h : Kd.string.C w A l.length l) {k : Nat} (hk : k < l.length) : ∃ ad, A = some ad ∧ w.cell? (ad.add k) = some (.string l[k]) := by
  obtain ⟨ad, c, e, _, hK, hc0⟩ := Kd.C_get h (⟨#[]⟩ : ByteArray) (k : Int) (by omega) (by omega)
  refine ⟨ad, e, ?_⟩
  have hK' : c = [.string (l.getD (k : Int).toNat ⟨#[]⟩)] := hK
  rw [Int.toNat_natCast, List.getD_eq_getElem?_getD, List.getElem?_eq_getElem hk] at hK'
  have := hc0 0 (.string l[k]) (by rw [hK']; rfl)
  rw [Int.toNat_natCast] at this
  have e1 : k * Kd.string.sz + 0 = k := by show k * 1 + 0 = k; omega
  rwa [e1] at this
/-- a tagged text -/
def tX (i : Int) (s : ByteArray) : S34 := ⟨2, i, false, bytesOf s, []⟩
set_option maxHeartbeats 3200000 in
set_option maxRecDepth 100000 in
theorem sAns_nw (name : ByteArray) (l : List ByteArray) (A : Option Addr) (c : Nat) (w : World) (hC : Kd.string.C w A l.length l) (hname : name.size ≤ 1000000) (hl : ∀ s, s ∈ l → s.size ≤ 1000000) (hn : l.length ≤ 1000) :
    Calls Tryz.prog 12 #[.string name, .slice A l.length c] w (Nw w.heap.size w (tOp 24 (([tC 0, tO ⟨#[]⟩, tO ⟨#[]⟩] ++ [tX 10 name]) ++ l.map (tX 11)))) := by
  have HC := Lib.hid hC
  have HO1 : Hid (∀ W, Calls Tryz.prog 37 #[.string name] W (Nw W.heap.size W (tO name))) := Lib.hid (fun W => octets_nw name W (by omega))
  have HOL : Hid (∀ s, s ∈ l → ∀ W, Calls Tryz.prog 37 #[.string s] W (Nw W.heap.size W (tO s))) := Lib.hid (fun s hs W => octets_nw s W (by have := hl s hs; omega))
  have HT1 : Hid (∀ (A3 : Option Addr) (c3 : Nat) (A4 : Option Addr) (c4 : Nat) (b : Nat) (W : World), Lies b W (tO name) A3 c3 A4 c4 → b ≤ W.heap.size → Calls Tryz.prog 36 #[.int .i64 2, .int .i64 10, .agg #[.int .i64 (tO name).f0, .int .i64 (tO name).f1, .bool (tO name).f2, .slice A3 (tO name).f3.length c3, .slice A4 (tO name).f4.length c4]] W (Nw b W (tX 10 name))) := Lib.hid (fun A3 c3 A4 c4 b W h hb => tagged_nw 2 10 (tO name) A3 c3 A4 c4 W h.1 h.2.1 h.2.2.1 h.2.2.2 hb)
  have HRN : Hid (∀ W, Calls Tryz.prog 24 #[.int .i64 24, .int .i64 0, .string ⟨#[]⟩, .string ⟨#[]⟩] W fun e w' => ∃ n0, e = .returned (.agg #[.int .i64 1, .int .i64 24, .bool true, .slice none 0 0, .slice (some ⟨n0, 0, none⟩) 3 3]) ∧ Kd.N k34 34 w' (W.heap.size + 1) (fun k => W.heap.size + 1 ≤ k) (.slice (some ⟨n0, 0, none⟩) 3 3) [tC 0, tO ⟨#[]⟩, tO ⟨#[]⟩] ∧ Below W.heap.size W w') := Lib.hid (fun W => sResN 24 0 ⟨#[]⟩ ⟨#[]⟩ W (by decide) (by decide) (by decide))
  obtain ⟨base0, hbase0⟩ : ∃ x, x = [tC 0, tO ⟨#[]⟩, tO ⟨#[]⟩] := ⟨_, rfl⟩
  have HL0 : Hid (base0.length = 3) := Lib.hid (by rw [hbase0]; rfl)
  rw [← hbase0] at HRN ⊢
  obtain ⟨xo, hxo⟩ : ∃ x, x = tO name := ⟨_, rfl⟩
  obtain ⟨p, hp⟩ : ∃ x, x = tX 10 name := ⟨_, rfl⟩
  rw [← hxo] at HO1 HT1
  rw [← hp] at HT1 ⊢
  obtain ⟨y, hy⟩ : ∃ y, y = tOp 24 ((base0 ++ [p]) ++ l.map (tX 11)) := ⟨_, rfl⟩
  rw [← hy]
  have HY := Lib.hid hy
  clear hy
  obtain ⟨W0, hW0⟩ : ∃ W0, W0 = w.alloc (.cells #[.int .i64 0, .int .i64 0, .bool false, .slice none 0 0, .slice none 0 0] 34) := ⟨_, rfl⟩
  have hb0 : Below w.heap.size w W0 := by rw [hW0]; exact below_alloc (Below.refl _ _) _
  have hs0 : W0.heap.size = w.heap.size + 1 := by rw [hW0]; simp
  have HB0 := Lib.hid hb0
  have HS0 := Lib.hid hs0
  have HZ0 : Hid (W0.heap[w.heap.size]? = some (.cells #[.int .i64 0, .int .i64 0, .bool false, .slice none 0 0, .slice none 0 0] 34 (0, 0))) := Lib.hid (by rw [hW0]; exact blk_new _ _)
  have HW0 := Lib.hid hW0
  clear hbase0 hxo hp hC hname hl hb0 hs0 hW0
  go_enter Tryz.func12, Tryz.ntmps12
  go_upto_region 2 with (go_at_call 24
                         rw [← HW0.out]
                         with_reducible refine (HRN.out W0).mono ?_
                         rintro e W3 ⟨n0, rfl, hN, hB⟩
                         have HN3 := Lib.hid hN
                         have HB3 := Lib.hid hB
                         clear hN hB)
  obtain ⟨W4, hW4⟩ : ∃ W4, W4 = W3.alloc (.cells #[.int .i64 1, .int .i64 24, .bool true, .slice none 0 0, .slice (some ⟨n0, 0, none⟩) 3 3] 34) := ⟨_, rfl⟩
  rw [← hW4]
  have hb4 : Below W3.heap.size W3 W4 := by rw [hW4]; exact below_alloc (Below.refl _ _) _
  have HI4 : Hid (AccL (w.heap.size + 1) W3.heap.size W4 1 24 true (.slice (some ⟨n0, 0, none⟩) 3 3) base0) := Lib.hid ⟨by rw [hW4]; exact blk_new _ _, Kd.N_lower (Kd.N_mono (Kd.N_below (Kd.N_bound HN3.out) hb4) (fun k hk => ⟨by have := hk.1; have := HS0.out; omega, by have := hk.2; omega⟩)) (by have := HS0.out; omega), by have h1 := HB3.out.size; have := HS0.out; omega⟩
  have HG : Hid (w.heap.size + 1 ≤ W3.heap.size) := Lib.hid (by have := HB3.out.size; have := HS0.out; omega)
  have HB4 : Hid (Below w.heap.size w W4) := Lib.hid ((HB0.out.trans (HB3.out.mono HB0.out.size)).trans (hb4.mono (by have := HG.out; omega)))
  have HZ4 := Lib.hid (blk_below (blk_below HZ0.out HB3.out) hb4)
  clear hW4 hb4
  obtain ⟨g, hg⟩ : ∃ g, g = W3.heap.size := ⟨_, rfl⟩
  rw [← hg] at HI4 HG ⊢
  clear hg
  obtain ⟨v, hv0⟩ : ∃ v, v = Value.slice (some ⟨n0, 0, none⟩) 3 3 := ⟨_, rfl⟩
  rw [← hv0] at HI4
  clear hv0
  obtain ⟨acc, hacc⟩ : ∃ x, x = base0 := ⟨_, rfl⟩
  have HLA : Hid (acc.length = 3) := Lib.hid (by rw [hacc]; exact HL0.out)
  rw [← hacc] at HI4
  have HAC := Lib.hid hacc
  clear hacc
  have HLE : Hid ((acc.length + 1) * 72 ≤ 140737488355328) := Lib.hid (by rw [HLA.out]; decide)
  have HOS := HO1
  have HTG := HT1
  have hd : Below W4.heap.size W4 W4.drew := (Below.refl _ _).drew
  have HI5 := Lib.hid (HI4.out.below hd)
  have HB5 : Hid (Below (w.heap.size + 1) W4 W4.drew) := Lib.hid (hd.mono HI4.out.base)
  have s4 : W4.drew.cell? ⟨g, 4, none⟩ = some v := blk_cell HI5.out.hg 4
  clear hd
  refine start_ (n := 9) (S := fun w' => w'.cell? ⟨g, 4, none⟩ = some v) (ds := [8]) #[nN,nN,nN,nN,nN,nN,nN,nN,nN] (by kernel_rfl) rfl rfl (s4) (fun hHeld => ?_)
  refine pure_ (i := 0) (N := some 9) (v := ?_) (a' := ?_) #[yY,nN,nN,nN,nN,nN,nN,nN,nN] rfl rfl (by kernel_rfl) (fun _ _ _ h => h) (Or.inl ⟨by rfl, ?_⟩) ?_ ?_
  rotate_left
  · intro w'
    go_simp
    with_reducible rfl
  rotate_left
  · simp only [Act.put, List.setIfInBounds_toArray, List.set_cons_zero, List.set_cons_succ, i64_w, i32_w]
    rfl
  refine pure_ (i := 2) (N := some 11) (v := ?_) (a' := ?_) #[yY,nN,yY,nN,nN,nN,nN,nN,nN] rfl rfl (by kernel_rfl) (fun _ _ _ h => h) (Or.inl ⟨by rfl, ?_⟩) ?_ ?_
  rotate_left
  · intro w'
    go_simp
    with_reducible rfl
  rotate_left
  · simp only [Act.put, List.setIfInBounds_toArray, List.set_cons_zero, List.set_cons_succ, i64_w, i32_w]
    rfl
  refine take_ (i := 1) (N := some 10) (v := ?_) (a' := ?_) #[yY,yY,yY,nN,nN,nN,nN,nN,nN] rfl rfl (by kernel_rfl) (fun _ _ _ h => h) (Or.inl ⟨by rfl, ?_⟩) hHeld ?_ ?_
  rotate_left
  · intro w' s0
    go_simp
    with_reducible rfl
  rotate_left
  · simp only [Act.put, List.setIfInBounds_toArray, List.set_cons_zero, List.set_cons_succ, i64_w, i32_w]
    rfl
  refine one_ (i := 3) (N := some 12) #[yY,yY,yY,yY,nN,nN,nN,nN,nN] rfl rfl (by kernel_rfl) (by decide) (fun K hK => ?_)
  refine goes_ Tryz.func37 (by kernel_rfl) rfl #[.string name] (by rfl) rfl rfl (by simp only [List.map_toArray, List.map_cons, List.map_nil]; rfl) ?_
  with_reducible refine (HOS.out W4.drew).mono ?_
  rintro e W6 h6
  obtain ⟨F3, f3, F4, f4, rfl, hl6, hB6⟩ := h6.open
  refine ⟨_, rfl, ?_⟩
  have HL6 := Lib.hid hl6
  have HI6 := Lib.hid (HI5.out.below hB6)
  have HB6 := Lib.hid hB6
  clear h6 hl6 hB6
  refine hK.out _ _ (blk_cell HI6.out.hg 4) (fun hHeld => ?_)
  clear hK K
  refine norm_ (a' := ?_) ?_ ?_
  rotate_left
  · show Act.put _ (some 12) _ = _
    simp only [Act.put, List.setIfInBounds_toArray, List.set_cons_zero, List.set_cons_succ, i64_w, i32_w]
    rfl
  refine one_ (i := 4) (N := some 13) #[yY,yY,yY,yY,yY,nN,nN,nN,nN] rfl rfl (by kernel_rfl) (by decide) (fun K hK => ?_)
  refine goes_ Tryz.func36 (by kernel_rfl) rfl #[.int .i64 2, .int .i64 10, .agg #[.int .i64 xo.f0, .int .i64 xo.f1, .bool xo.f2, .slice F3 xo.f3.length f3, .slice F4 xo.f4.length f4]] (by rfl) rfl rfl (by simp only [List.map_toArray, List.map_cons, List.map_nil]; rfl) ?_
  with_reducible refine (HTG.out F3 f3 F4 f4 W4.drew.heap.size W6 HL6.out HB6.out.size).mono ?_
  rintro e W7 h7
  obtain ⟨E3, q3, E4, q4, rfl, hl7, hB7⟩ := h7.open
  refine ⟨_, rfl, ?_⟩
  have HK7 := Lib.hid (AccL.kid hl7 HI5.out (Nat.le_refl _))
  have HI7 := Lib.hid (HI6.out.below hB7)
  have HB7 := Lib.hid (HB5.out.trans ((HB6.out.trans (hB7.mono HB6.out.size)).mono HI5.out.base))
  clear h7 hl7 hB7
  refine hK.out _ _ (blk_cell HI7.out.hg 4) (fun hHeld => ?_)
  clear hK K
  refine norm_ (a' := ?_) ?_ ?_
  rotate_left
  · show Act.put _ (some 13) _ = _
    simp only [Act.put, List.setIfInBounds_toArray, List.set_cons_zero, List.set_cons_succ, i64_w, i32_w]
    rfl
  refine one_ (i := 5) (N := some 14) #[yY,yY,yY,yY,yY,yY,nN,nN,nN] rfl rfl (by kernel_rfl) (by decide) (fun K hK => ?_)
  refine value_ (w1 := ?_) (v := ?_) (by rfl) rfl ?_ ?_
  rotate_left 2
  · go_simp
    constructor
    · rfl
    · rfl
  refine hK.out _ _ (blk_cell (blk_alloc HI7.out.hg _) 4) (fun hHeld => ?_)
  clear hK K
  refine norm_ (a' := ?_) ?_ ?_
  rotate_left
  · show Act.put _ (some 14) _ = _
    simp only [Act.put, List.setIfInBounds_toArray, List.set_cons_zero, List.set_cons_succ, i64_w, i32_w]
    rfl
  refine one_ (i := 6) (N := some 15) #[yY,yY,yY,yY,yY,yY,yY,nN,nN] rfl rfl (by kernel_rfl) (by decide) (fun K hK => ?_)
  refine Kd.N_append_step k34 (w0 := W7) (W := W7) (w.heap.size + 1) (by rfl) (.tmp 10) (.tmp 14) 32 34 (.agg #[.int .i64 0, .int .i64 0, .bool false, .slice none 0 0, .slice none 0 0]) 72 (by rfl) Tryz.underlying32 info_sp rfl (show 0 < 5 by decide) (by decide) v acc p _ (fun k => w.heap.size + 1 ≤ k ∧ k ≠ g) _ (by rfl) (by rfl) HK7.out (fun _ h => h) HI7.out.fresh HI7.out.row (Below.refl _ _) HI7.out.base HLE.out ?_
  intro v1 w1 hR hb hg hat
  have x0 : w1.cell? ⟨g, 4, none⟩ = some v := blk_cell (blk_grown HI7.out.hg hg HI7.out.ne) 4
  have xf : w1.frozen? ⟨g, 4, none⟩ = false := blk_frozen (blk_grown HI7.out.hg hg HI7.out.ne) 4
  obtain ⟨Aq, cq, hvq⟩ := Kd.N_slice hR
  have h8 := HI7.out.app hR hg
  have hb8 := HB7.out.trans (((hb.setCell (p := ⟨g, 4, none⟩) HI7.out.le v1)))
  obtain ⟨n, hn⟩ : ∃ n, n = (acc ++ [p]).length := ⟨_, rfl⟩
  rw [← hn] at hvq
  subst hvq
  have HI8 := Lib.hid h8
  have HB8 := Lib.hid hb8
  clear hR hb hg hat hn h8 hb8
  refine hK.out _ _ (x0) (fun hHeld => ?_)
  clear hK K
  refine norm_ (a' := ?_) ?_ ?_
  rotate_left
  · show Act.put _ (some 15) _ = _
    simp only [Act.put, List.setIfInBounds_toArray, List.set_cons_zero, List.set_cons_succ, i64_w, i32_w]
    rfl
  refine pure_ (i := 7) (N := some 16) (v := ?_) (a' := ?_) #[yY,yY,yY,yY,yY,yY,yY,yY,nN] rfl rfl (by kernel_rfl) (fun _ _ _ h => h) (Or.inl ⟨by rfl, ?_⟩) ?_ ?_
  rotate_left
  · intro w'
    go_simp
    with_reducible rfl
  rotate_left
  · simp only [Act.put, List.setIfInBounds_toArray, List.set_cons_zero, List.set_cons_succ, i64_w, i32_w]
    rfl
  refine last_ (i := 8) (N := none) #[yY,yY,yY,yY,yY,yY,yY,yY,yY] rfl rfl (by kernel_rfl) (by decide) (fun K hK => ?_)
  refine skip_ (w1 := ?_) (by rfl) rfl ?_ ?_
  rotate_left
  · go_simp
    rfl
  refine hK.out _ _ ?_
  clear hK K
  refine done_ (by kernel_rfl) ?_
  have HBF := Lib.hid (HB4.out.trans (HB8.out.mono (Nat.le_succ _)))
  have HZF : Hid ((w1.setCell ⟨g, 4, none⟩ (.slice Aq n cq)).heap[w.heap.size]? = some (.cells #[.int .i64 0, .int .i64 0, .bool false, .slice none 0 0, .slice none 0 0] 34 (0, 0))) := Lib.hid ((HB8.out.block w.heap.size (Nat.lt_succ_self _)).trans HZ4.out)
  obtain ⟨WF, hWF⟩ : ∃ WF, WF = w1.setCell ⟨g, 4, none⟩ (.slice Aq n cq) := ⟨_, rfl⟩
  rw [← hWF] at HBF HZF HI8 ⊢
  obtain ⟨base, hbase⟩ : ∃ x, x = acc ++ [p] := ⟨_, rfl⟩
  rw [← hbase] at HI8
  have HBL : Hid (base.length = 4) := Lib.hid (by rw [hbase, List.length_append, HLA.out]; rfl)
  have HYB : Hid (y = tOp 24 (base ++ l.map (tX 11))) := Lib.hid (by rw [HY.out, hbase, HAC.out])
  clear hWF hbase HTG HOS HB4 HZ4 HB5 HI5 HB8 s4 x0 xf HLE HY HB6 HB7 HI6 HI7 HL6 HK7
  obtain ⟨vf, hvf⟩ : ∃ v, v = Value.slice Aq n cq := ⟨_, rfl⟩
  rw [← hvf] at HI8
  clear hvf
  clear hHeld
  have HI4F := HI8
  have HB4 := HBF
  have HZ4 := HZF
  have HY := HYB
  clear HI4 HI8 HBF HZF HYB HO1 HT1 HRN HAC HLA HL0
  go_wp2
  go_loopw [19] (fun i wr => ∃ k : Nat, i = .int .i64 k ∧ k ≤ l.length ∧ Hid (∃ v, AccL (w.heap.size + 1) g wr 1 24 true v (base ++ (l.take k).map (tX 11))) ∧ Hid (Below (w.heap.size + 1) WF wr)) (fun i _ => l.length - (intOf i).toNat)
  case atStart => exact ⟨0, rfl, Nat.zero_le _, Lib.hid ⟨_, by rw [List.take_zero, List.map_nil, List.append_nil]; exact HI4F.out⟩, Lib.hid (Below.refl _ _)⟩
  case round =>
    obtain ⟨k, rfl, hk, HI3, HBr⟩ := hrel
    obtain ⟨v, HI9⟩ := HI3.out
    have HI := Lib.hid HI9
    clear HI3 HI9
    have HBW : Hid (Below w.heap.size w wr) := Lib.hid (HB4.out.trans (HBr.out.mono (Nat.le_succ _)))
    by_cases hlt : k < l.length
    · obtain ⟨ad, rfl, hcell⟩ := str_atS HC.out hlt
      replace hcell := (HBW.out.cell (World.block_lt_of_cell? w _ hcell)).trans hcell
      have HST : Hid ((base ++ (l.take k).map (tX 11)) ++ [tX 11 l[k]] = base ++ (l.take (k + 1)).map (tX 11)) := Lib.hid (by rw [List.take_succ_eq_append_getElem hlt, List.map_append, List.append_assoc]; rfl)
      have HLE : Hid (((base ++ (l.take k).map (tX 11)).length + 1) * 72 ≤ 140737488355328) := Lib.hid (by rw [List.length_append, List.length_map, List.length_take, HBL.out]; omega)
      have HOS := Lib.hid (HOL.out l[k] (List.getElem_mem hlt))
      obtain ⟨s, hs⟩ : ∃ s, s = l[k] := ⟨_, rfl⟩
      obtain ⟨acc, hacc⟩ : ∃ acc, acc = base ++ (l.take k).map (tX 11) := ⟨_, rfl⟩
      rw [← hs] at hcell HST HOS
      rw [← hacc] at HST HLE HI
      have HTG : Hid (∀ (A3 : Option Addr) (c3 : Nat) (A4 : Option Addr) (c4 : Nat) (b : Nat) (W : World), Lies b W (tO s) A3 c3 A4 c4 → b ≤ W.heap.size → Calls Tryz.prog 36 #[.int .i64 2, .int .i64 11, .agg #[.int .i64 (tO s).f0, .int .i64 (tO s).f1, .bool (tO s).f2, .slice A3 (tO s).f3.length c3, .slice A4 (tO s).f4.length c4]] W (Nw b W (tX 11 s))) := Lib.hid (fun A3 c3 A4 c4 b W h hb => tagged_nw 2 11 (tO s) A3 c3 A4 c4 W h.1 h.2.1 h.2.2.1 h.2.2.2 hb)
      obtain ⟨xo, hxo⟩ : ∃ x, x = tO s := ⟨_, rfl⟩
      obtain ⟨p, hp⟩ : ∃ p, p = tX 11 s := ⟨_, rfl⟩
      rw [← hxo] at HTG HOS
      rw [← hp] at HST HTG
      clear hs hacc hxo hp
      go_wp2_with fail
      have hd : Below wr.heap.size wr wr.drew := (Below.refl _ _).drew
      have HI5 := Lib.hid (HI.out.below hd)
      have HB5 : Hid (Below (w.heap.size + 1) WF wr.drew) := Lib.hid (HBr.out.trans (hd.mono HI.out.base))
      have s4 : wr.drew.cell? ⟨g, 4, none⟩ = some v := blk_cell HI5.out.hg 4
      clear hcell hd
      refine start_ (n := 9) (S := fun w' => w'.cell? ⟨g, 4, none⟩ = some v) (ds := [8]) #[nN,nN,nN,nN,nN,nN,nN,nN,nN] (by kernel_rfl) rfl rfl (s4) (fun hHeld => ?_)
      refine pure_ (i := 0) (N := some 23) (v := ?_) (a' := ?_) #[yY,nN,nN,nN,nN,nN,nN,nN,nN] rfl rfl (by kernel_rfl) (fun _ _ _ h => h) (Or.inl ⟨by rfl, ?_⟩) ?_ ?_
      rotate_left
      · intro w'
        go_simp
        with_reducible rfl
      rotate_left
      · simp only [Act.put, List.setIfInBounds_toArray, List.set_cons_zero, List.set_cons_succ, i64_w, i32_w]
        rfl
      refine pure_ (i := 2) (N := some 25) (v := ?_) (a' := ?_) #[yY,nN,yY,nN,nN,nN,nN,nN,nN] rfl rfl (by kernel_rfl) (fun _ _ _ h => h) (Or.inl ⟨by rfl, ?_⟩) ?_ ?_
      rotate_left
      · intro w'
        go_simp
        with_reducible rfl
      rotate_left
      · simp only [Act.put, List.setIfInBounds_toArray, List.set_cons_zero, List.set_cons_succ, i64_w, i32_w]
        rfl
      refine take_ (i := 1) (N := some 24) (v := ?_) (a' := ?_) #[yY,yY,yY,nN,nN,nN,nN,nN,nN] rfl rfl (by kernel_rfl) (fun _ _ _ h => h) (Or.inl ⟨by rfl, ?_⟩) hHeld ?_ ?_
      rotate_left
      · intro w' s0
        go_simp
        with_reducible rfl
      rotate_left
      · simp only [Act.put, List.setIfInBounds_toArray, List.set_cons_zero, List.set_cons_succ, i64_w, i32_w]
        rfl
      refine one_ (i := 3) (N := some 26) #[yY,yY,yY,yY,nN,nN,nN,nN,nN] rfl rfl (by kernel_rfl) (by decide) (fun K hK => ?_)
      refine goes_ Tryz.func37 (by kernel_rfl) rfl #[.string s] (by rfl) rfl rfl (by simp only [List.map_toArray, List.map_cons, List.map_nil]; rfl) ?_
      with_reducible refine (HOS.out wr.drew).mono ?_
      rintro e W6 h6
      obtain ⟨F3, f3, F4, f4, rfl, hl6, hB6⟩ := h6.open
      refine ⟨_, rfl, ?_⟩
      have HL6 := Lib.hid hl6
      have HI6 := Lib.hid (HI5.out.below hB6)
      have HB6 := Lib.hid hB6
      clear h6 hl6 hB6
      refine hK.out _ _ (blk_cell HI6.out.hg 4) (fun hHeld => ?_)
      clear hK K
      refine norm_ (a' := ?_) ?_ ?_
      rotate_left
      · show Act.put _ (some 26) _ = _
        simp only [Act.put, List.setIfInBounds_toArray, List.set_cons_zero, List.set_cons_succ, i64_w, i32_w]
        rfl
      refine one_ (i := 4) (N := some 27) #[yY,yY,yY,yY,yY,nN,nN,nN,nN] rfl rfl (by kernel_rfl) (by decide) (fun K hK => ?_)
      refine goes_ Tryz.func36 (by kernel_rfl) rfl #[.int .i64 2, .int .i64 11, .agg #[.int .i64 xo.f0, .int .i64 xo.f1, .bool xo.f2, .slice F3 xo.f3.length f3, .slice F4 xo.f4.length f4]] (by rfl) rfl rfl (by simp only [List.map_toArray, List.map_cons, List.map_nil]; rfl) ?_
      with_reducible refine (HTG.out F3 f3 F4 f4 wr.drew.heap.size W6 HL6.out HB6.out.size).mono ?_
      rintro e W7 h7
      obtain ⟨E3, q3, E4, q4, rfl, hl7, hB7⟩ := h7.open
      refine ⟨_, rfl, ?_⟩
      have HK7 := Lib.hid (AccL.kid hl7 HI5.out (Nat.le_refl _))
      have HI7 := Lib.hid (HI6.out.below hB7)
      have HB7 := Lib.hid (HB5.out.trans ((HB6.out.trans (hB7.mono HB6.out.size)).mono HI5.out.base))
      clear h7 hl7 hB7
      refine hK.out _ _ (blk_cell HI7.out.hg 4) (fun hHeld => ?_)
      clear hK K
      refine norm_ (a' := ?_) ?_ ?_
      rotate_left
      · show Act.put _ (some 27) _ = _
        simp only [Act.put, List.setIfInBounds_toArray, List.set_cons_zero, List.set_cons_succ, i64_w, i32_w]
        rfl
      refine one_ (i := 5) (N := some 28) #[yY,yY,yY,yY,yY,yY,nN,nN,nN] rfl rfl (by kernel_rfl) (by decide) (fun K hK => ?_)
      refine value_ (w1 := ?_) (v := ?_) (by rfl) rfl ?_ ?_
      rotate_left 2
      · go_simp
        constructor
        · rfl
        · rfl
      refine hK.out _ _ (blk_cell (blk_alloc HI7.out.hg _) 4) (fun hHeld => ?_)
      clear hK K
      refine norm_ (a' := ?_) ?_ ?_
      rotate_left
      · show Act.put _ (some 28) _ = _
        simp only [Act.put, List.setIfInBounds_toArray, List.set_cons_zero, List.set_cons_succ, i64_w, i32_w]
        rfl
      refine one_ (i := 6) (N := some 29) #[yY,yY,yY,yY,yY,yY,yY,nN,nN] rfl rfl (by kernel_rfl) (by decide) (fun K hK => ?_)
      refine Kd.N_append_step k34 (w0 := W7) (W := W7) (w.heap.size + 1) (by rfl) (.tmp 24) (.tmp 28) 32 34 (.agg #[.int .i64 0, .int .i64 0, .bool false, .slice none 0 0, .slice none 0 0]) 72 (by rfl) Tryz.underlying32 info_sp rfl (show 0 < 5 by decide) (by decide) v acc p _ (fun k => w.heap.size + 1 ≤ k ∧ k ≠ g) _ (by rfl) (by rfl) HK7.out (fun _ h => h) HI7.out.fresh HI7.out.row (Below.refl _ _) HI7.out.base HLE.out ?_
      intro v1 w1 hR hb hg hat
      have x0 : w1.cell? ⟨g, 4, none⟩ = some v := blk_cell (blk_grown HI7.out.hg hg HI7.out.ne) 4
      have xf : w1.frozen? ⟨g, 4, none⟩ = false := blk_frozen (blk_grown HI7.out.hg hg HI7.out.ne) 4
      obtain ⟨Aq, cq, hvq⟩ := Kd.N_slice hR
      have h8 := HI7.out.app hR hg
      have hb8 := HB7.out.trans (((hb.setCell (p := ⟨g, 4, none⟩) HI7.out.le v1)))
      obtain ⟨n, hn⟩ : ∃ n, n = (acc ++ [p]).length := ⟨_, rfl⟩
      rw [← hn] at hvq
      subst hvq
      have HI8 := Lib.hid h8
      have HB8 := Lib.hid hb8
      clear hR hb hg hat hn h8 hb8
      refine hK.out _ _ (x0) (fun hHeld => ?_)
      clear hK K
      refine norm_ (a' := ?_) ?_ ?_
      rotate_left
      · show Act.put _ (some 29) _ = _
        simp only [Act.put, List.setIfInBounds_toArray, List.set_cons_zero, List.set_cons_succ, i64_w, i32_w]
        rfl
      refine pure_ (i := 7) (N := some 30) (v := ?_) (a' := ?_) #[yY,yY,yY,yY,yY,yY,yY,yY,nN] rfl rfl (by kernel_rfl) (fun _ _ _ h => h) (Or.inl ⟨by rfl, ?_⟩) ?_ ?_
      rotate_left
      · intro w'
        go_simp
        with_reducible rfl
      rotate_left
      · simp only [Act.put, List.setIfInBounds_toArray, List.set_cons_zero, List.set_cons_succ, i64_w, i32_w]
        rfl
      refine last_ (i := 8) (N := none) #[yY,yY,yY,yY,yY,yY,yY,yY,yY] rfl rfl (by kernel_rfl) (by decide) (fun K hK => ?_)
      refine skip_ (w1 := ?_) (by rfl) rfl ?_ ?_
      rotate_left
      · go_simp
        rfl
      refine hK.out _ _ ?_
      clear hK K
      refine done_ (by kernel_rfl) ?_
      go_wp2
      exact ⟨⟨k + 1, by first | rfl | go_num, hlt, Lib.hid ⟨_, by rw [← HST.out]; exact HI8.out⟩, HB8⟩, by simp [intOf]; omega⟩
    · obtain rfl : k = l.length := by omega
      rw [List.take_length] at HI
      obtain ⟨m, hm⟩ : ∃ m, m = base ++ l.map (tX 11) := ⟨_, rfl⟩
      have HYM : Hid (y = tOp 24 m) := Lib.hid (by rw [HY.out, hm])
      rw [← hm] at HI
      obtain ⟨Az, cz, hv, hlz⟩ := HI.out.lies
      subst hv
      have HLZ : Hid (Lies (w.heap.size + 1) wr (tOp 24 m) none 0 Az cz) := Lib.hid hlz
      have HZR : Hid (wr.heap[w.heap.size]? = some (.cells #[.int .i64 0, .int .i64 0, .bool false, .slice none 0 0, .slice none 0 0] 34 (0, 0))) := Lib.hid ((HBr.out.block w.heap.size (Nat.lt_succ_self _)).trans HZ4.out)
      have s0 : wr.cell? ⟨g, 0, none⟩ = some (.int .i64 1) := blk_cell HI.out.hg 0
      have s1 : wr.cell? ⟨g, 1, none⟩ = some (.int .i64 24) := blk_cell HI.out.hg 1
      have s2 : wr.cell? ⟨g, 2, none⟩ = some (.bool true) := blk_cell HI.out.hg 2
      have s3 : wr.cell? ⟨g, 3, none⟩ = some (.slice none 0 0) := blk_cell HI.out.hg 3
      have s4 : wr.cell? ⟨g, 4, none⟩ = some (.slice Az m.length cz) := blk_cell HI.out.hg 4
      have k0 : wr.cell? ⟨w.heap.size, 0, none⟩ = some (.int .i64 0) := blk_cell HZR.out 0
      have k1 : wr.cell? ⟨w.heap.size, 1, none⟩ = some (.int .i64 0) := blk_cell HZR.out 1
      have k2 : wr.cell? ⟨w.heap.size, 2, none⟩ = some (.bool false) := blk_cell HZR.out 2
      have k3 : wr.cell? ⟨w.heap.size, 3, none⟩ = some (.slice none 0 0) := blk_cell HZR.out 3
      have k4 : wr.cell? ⟨w.heap.size, 4, none⟩ = some (.slice none 0 0) := blk_cell HZR.out 4
      have kf0 := blk_frozen HZR.out 0
      have kf1 := blk_frozen HZR.out 1
      have kf2 := blk_frozen HZR.out 2
      have kf3 := blk_frozen HZR.out 3
      have kf4 := blk_frozen HZR.out 4
      clear hlz hm
      go_wp2
      obtain ⟨h5, hend⟩ := nw_end (b := w.heap.size) (B := w.heap.size + 1) (n := w.heap.size) (x := tOp 24 m) HBW.out (Nat.le_refl _) (fun k hk => by omega) (by omega) HZR.out HLZ.out.1 HLZ.out.2.1 HLZ.out.2.2.1 HLZ.out.2.2.2 rfl
      try simp only [Exit.inBlock, Exit.then]
      exact bodyPost_ret (results_c rfl _ _ _ _ _ _ _ rfl h5 Tryz.underlying34 rfl size34) rfl (by rw [HYM.out]; exact hend)
end Go.Proofs.YteockihoefbmdaaGreatDoor.Ber
namespace Go.Proofs.YteockihoefbmdaaGreatDoor.Ber
open Go.RowKit Go.Proofs.YteockihoefbmdaaGreatDoorW.PrintWords Go.Proofs.YteockihoefbmdaaGreatDoorW.PrintLast Go.Proofs.YteockihoefbmdaaGreatDoor.Buf Go.Proofs.YteockihoefbmdaaGreatDoor.Pk Go.Proofs.YteockihoefbmdaaGreatDoor.Tree Go.Proofs.YteockihoefbmdaaGreatDoor.Num Go.Proofs.YteockihoefbmdaaGreatDoor.Ident Go.Proofs.YteockihoefbmdaaGreatDoor.PFnEncode Go.Proofs.YteockihoefbmdaaGreatDoor.Within
set_option linter.unusedVariables false
set_option linter.unusedSimpArgs false

/-- the operation of an answer -/
def ansO (name : ByteArray) (l : List ByteArray) : S34 := tOp 24 (([tC 0, tO ⟨#[]⟩, tO ⟨#[]⟩] ++ [tX 10 name]) ++ l.map (tX 11))
/-- the message of an answer -/
def ansT (id : Int) (name : ByteArray) (l : List ByteArray) : S34 := msgT id (ansO name l) []
theorem emp_len : (bytesOf ⟨#[]⟩).length = 0 := by rw [bytesOf_length]; rfl
theorem ansT_fine0 (id : Int) (name : ByteArray) (hid : -9223372036854775808 ≤ id ∧ id ≤ 9223372036854775807) (h1 : name.size ≤ 1000) : Fine5 (ansT id name []) := by
  have w1 := whole_lens id hid
  have w2 := whole_lens 0 (by decide)
  have b1 := bytesOf_length name
  have b0 := emp_len
  refine ⟨?_, ?_, ?_, ?_, ?_⟩
  · simp [ansT, ansO, msgT, tL, tOp, tC, tO, tX, good, goodL]
  · simp only [ansT, ansO, msgT, tL, tOp, tC, tO, tX, tsize, tsizeL, List.isEmpty_nil, if_true, List.append_nil, List.length_nil, List.map_nil, List.cons_append, List.nil_append, b1, b0]
    omega
  · simp [ansT, ansO, msgT, tL, tOp, tC, tO, tX, dpx, dpxL]
  · simp [ansT, ansO, msgT, tL, tOp, tC, tO, tX, kp, kpL, w1, w2]
  · simp only [ansT, ansO, msgT, tL, tOp, tC, tO, tX, pl, plL, inB, inBL, List.isEmpty_nil, if_true, List.append_nil, List.map_nil, List.cons_append, List.nil_append]
    exact ⟨fun y hy => absurd hy List.not_mem_nil, ⟨whole_in id, trivial⟩, ⟨fun y hy => absurd hy List.not_mem_nil, ⟨whole_in 0, trivial⟩, ⟨bo_in _, trivial⟩, ⟨bo_in _, trivial⟩, ⟨bo_in name, trivial⟩, trivial⟩, trivial⟩
theorem ansT_fine1 (id : Int) (name s : ByteArray) (hid : -9223372036854775808 ≤ id ∧ id ≤ 9223372036854775807) (h1 : name.size ≤ 1000) (h2 : s.size ≤ 1000) : Fine5 (ansT id name [s]) := by
  have w1 := whole_lens id hid
  have w2 := whole_lens 0 (by decide)
  have b1 := bytesOf_length name
  have b2 := bytesOf_length s
  have b0 := emp_len
  refine ⟨?_, ?_, ?_, ?_, ?_⟩
  · simp [ansT, ansO, msgT, tL, tOp, tC, tO, tX, good, goodL]
  · simp only [ansT, ansO, msgT, tL, tOp, tC, tO, tX, tsize, tsizeL, List.isEmpty_nil, if_true, List.append_nil, List.length_nil, List.map_nil, List.map_cons, List.cons_append, List.nil_append, b1, b0, b2]
    omega
  · simp [ansT, ansO, msgT, tL, tOp, tC, tO, tX, dpx, dpxL]
  · simp [ansT, ansO, msgT, tL, tOp, tC, tO, tX, kp, kpL, w1, w2]
  · simp only [ansT, ansO, msgT, tL, tOp, tC, tO, tX, pl, plL, inB, inBL, List.isEmpty_nil, if_true, List.append_nil, List.map_nil, List.map_cons, List.cons_append, List.nil_append]
    exact ⟨fun y hy => absurd hy List.not_mem_nil, ⟨whole_in id, trivial⟩, ⟨fun y hy => absurd hy List.not_mem_nil, ⟨whole_in 0, trivial⟩, ⟨bo_in _, trivial⟩, ⟨bo_in _, trivial⟩, ⟨bo_in name, trivial⟩, ⟨bo_in s, trivial⟩, trivial⟩, trivial⟩
theorem ansT_is (id : Int) (name : ByteArray) (l : List ByteArray) (hl : l.length ≤ 1) :
    IsExt (rdPk (ansT id name l)) (rdPk (ansO name l)) (rdPk (tC 0)) (rdPk (tO ⟨#[]⟩)) (rdPk (tO ⟨#[]⟩)) (rdPk (tX 10 name)) (rdL (l.map (tX 11))) name := by
  have e : valOf 10 (whole 0) = .iface 2 (.int .i64 0) := by simp [valOf, sv_whole 0 (by decide)]
  have e1 : valOf 4 (bytesOf ⟨#[]⟩) = strV ⟨#[]⟩ := by simp [valOf, so_bo]
  have hlen : (rdL (l.map (tX 11))).length = l.length := by rw [rdL_length, List.length_map]
  refine ⟨⟨?_, ?_, ?_, ?_, ?_, ?_, ?_, ?_, ?_, ?_, ?_, ?_, ?_, ?_, ?_⟩, ?_, ?_, ?_, ?_, ?_, ?_, ?_, ?_, ?_, ?_⟩
  case refine_25 => rw [hlen]; exact hl
  case refine_24 =>
    intro c hc
    rcases l with _ | ⟨s, _ | ⟨s', l⟩⟩
    · rw [List.map_nil, rdL] at hc
      exact absurd hc List.not_mem_nil
    · rw [List.map_cons, List.map_nil, rdL, rdL] at hc
      rw [List.mem_singleton.1 hc]
      simp [tX, rdPk]
    · simp at hl
  all_goals simp [ansT, ansO, msgT, tL, tOp, tC, tO, tX, rdPk, rdL, rdL_append, rdL_length, e, e1]
  all_goals omega
theorem answer_x0 (x : S34) (F : Fine5 x) {r c0 c1 c2 c3' : Pk} {nm : ByteArray} (E : IsExt (rdPk x) r c0 c1 c2 c3' [] nm) (w : World) (A3 : Option Addr) (c3 : Nat) (A4 : Option Addr) (c4 : Nat) (h3 : B8.C w A3 x.f3.length x.f3) (h4 : k30.C w A4 (plL x.f4).length (plL x.f4)) (va ua : Addr) (hE : EofAt w va ua) :
    Calls Tryz.prog 9 #[.agg #[.int .i64 x.f0, .int .i64 x.f1, .bool x.f2, .slice A3 x.f3.length c3, .slice A4 (plL x.f4).length c4]] w fun e w' => e = .returned (.tuple #[.string nm, .slice none 0 0, .bool false, .bool true]) ∧ Below w.heap.size w w' := by
  have key := ans_none w (pl x) A3 c3 A4 c4 (x := rdPk x) E rfl (fun W hW => by
    rw [pl_f0, pl_f1, pl_f2, pl_f3, pl_f4]
    exact read_pl x F w W A3 c3 A4 c4 h3 h4 hW va ua (eof_below hE hW))
  rw [pl_f0, pl_f1, pl_f2, pl_f3, pl_f4] at key
  exact key
theorem answer_x1 (x : S34) (F : Fine5 x) {r c0 c1 c2 c3' : Pk} {nm : ByteArray} (cc : Pk) (E : IsExt (rdPk x) r c0 c1 c2 c3' [cc] nm) (hcz : cc.data.length ≤ 1000000) (w : World) (A3 : Option Addr) (c3 : Nat) (A4 : Option Addr) (c4 : Nat) (h3 : B8.C w A3 x.f3.length x.f3) (h4 : k30.C w A4 (plL x.f4).length (plL x.f4)) (va ua : Addr) (hE : EofAt w va ua) :
    Calls Tryz.prog 9 #[.agg #[.int .i64 x.f0, .int .i64 x.f1, .bool x.f2, .slice A3 x.f3.length c3, .slice A4 (plL x.f4).length c4]] w fun e w' => ∃ A5 d5, e = .returned (.tuple #[.string nm, .slice A5 cc.data.length d5, .bool true, .bool true]) ∧ B8.C w' A5 cc.data.length cc.data ∧ Below w.heap.size w w' := by
  have key := ans_some w (pl x) A3 c3 A4 c4 (x := rdPk x) E cc rfl hcz (fun W hW => by
    rw [pl_f0, pl_f1, pl_f2, pl_f3, pl_f4]
    exact read_pl x F w W A3 c3 A4 c4 h3 h4 hW va ua (eof_below hE hW))
  rw [pl_f0, pl_f1, pl_f2, pl_f3, pl_f4] at key
  exact key
end Go.Proofs.YteockihoefbmdaaGreatDoor.Ber
namespace Go.Proofs.YteockihoefbmdaaGreatDoor.Within
open Go.RowKit Go.Proofs.YteockihoefbmdaaGreatDoorW.PrintWords Go.Proofs.YteockihoefbmdaaGreatDoor.PFnEncode Go.Proofs.YteockihoefbmdaaGreatDoor.Tree Go.Proofs.YteockihoefbmdaaGreatDoor.Buf Go.Proofs.YteockihoefbmdaaGreatDoor.Num
set_option linter.unusedVariables false
set_option linter.unusedSimpArgs false

/-- texts of at most 200 bytes, at most 20 of them -/
def shortT (l : List ByteArray) : Bool := l.all (fun s => decide (s.size ≤ 200)) && decide (l.length ≤ 20)

theorem short_l0 (x0 : List ByteArray) : ∀ (l pre : List ByteArray), pre.length + l.length < 4611686018427387904 → laws_short.l0 (l.length + 1) x0 (pre ++ l) ((pre ++ l).length : Int) (pre.length : Int) = some (l.all (fun s => decide (s.size ≤ 200)) && decide (x0.length ≤ 20)) := by
  intro l
  induction l with
  | nil =>
    intro pre _
    unfold laws_short.l0
    rw [if_neg (by simp)]
    simp
    omega
  | cons s l ih =>
    intro pre hl
    rw [List.length_cons] at hl
    unfold laws_short.l0
    rw [if_pos (by simp; omega), if_pos (by omega), if_pos (by simp; omega)]
    have e : rdOf ByteArray.empty (pre ++ s :: l) (pre.length : Int) = s := by
      unfold rdOf
      simp
    rw [e]
    by_cases hs : (s.size : Int) > 200
    · rw [if_pos hs]
      simp
      omega
    · rw [if_neg hs]
      have e2 : wrap64 ((pre.length : Int) + 1) = ((pre ++ [s]).length : Int) := by
        unfold wrap64
        simp
        omega
      have e3 : pre ++ s :: l = (pre ++ [s]) ++ l := by simp
      rw [e2, e3, List.length_cons, ih (pre ++ [s]) (by simp; omega)]
      have : decide (s.size ≤ 200) = true := by simp; omega
      simp [this]

theorem short_any (l : List ByteArray) (A : Option Addr) (c : Nat) (w : World) (h : Kd.C Kd.string w A l.length l) (hl : l.length ≤ c) (hn : l.length < 1000000) :
    Calls Tryz.prog 7 #[.slice A l.length c] w fun e w' => e = .returned (.bool (shortT l)) ∧ Below w.heap.size w w' := by
  have hs : laws_short.f (l.length + 1) l = some (shortT l) := by
    unfold laws_short.f shortT
    have := short_l0 l l [] (by simp; omega)
    simpa using this
  refine (laws_short.calls _ A c l _ w h hl hs).mono ?_
  rintro e w' ⟨rfl, ⟨nd, rfl⟩⟩
  exact ⟨rfl, pw_below_drewN (Below.refl _ _) _⟩

/-- texts beside each other in a block -/
theorem strs_block {W : World} {n : Nat} {l : List ByteArray} {arr : Array Value} (hb : W.heap[n]? = some (.cells arr 9 (0, 0))) (ha : arr.toList = l.map Value.string) (hm : l.length ≤ 9223372036854775807) : Kd.C Kd.string W (some ⟨n, 0, none⟩) l.length l := by
  refine ⟨rfl, hm, fun _ => ⟨⟨n, 0, none⟩, rfl, fun j p hj => ⟨[.string p], rfl, rfl, fun i u hu => ?_⟩⟩⟩
  have hi : i = 0 := by
    have := (List.getElem?_eq_some_iff.1 hu).1
    simpa using this
  subst hi
  have hu' : Value.string p = u := by simpa using hu
  subst hu'
  have h1 := blk_cell hb j
  rw [← Array.getElem?_toList, ha, List.getElem?_map, hj] at h1
  have e : (Addr.add ⟨n, 0, none⟩ (j * Kd.string.sz + 0)) = ⟨n, j, none⟩ := by
    show Addr.add ⟨n, 0, none⟩ (j * 1 + 0) = _
    unfold Addr.add
    simp
    intros
    omega
  rw [e, h1]
  rfl
end Go.Proofs.YteockihoefbmdaaGreatDoor.Within
namespace Go.Proofs.YteockihoefbmdaaGreatDoor.Ber
open Go.RowKit Go.Proofs.YteockihoefbmdaaGreatDoorW.PrintWords Go.Proofs.YteockihoefbmdaaGreatDoorW.PrintLast Go.Proofs.YteockihoefbmdaaGreatDoor.Buf Go.Proofs.YteockihoefbmdaaGreatDoor.Pk Go.Proofs.YteockihoefbmdaaGreatDoor.Tree Go.Proofs.YteockihoefbmdaaGreatDoor.Num Go.Proofs.YteockihoefbmdaaGreatDoor.Ident Go.Proofs.YteockihoefbmdaaGreatDoor.PFnEncode Go.Proofs.YteockihoefbmdaaGreatDoor.Within
set_option linter.unusedVariables false
set_option linter.unusedSimpArgs false

set_option maxHeartbeats 3200000 in
set_option maxRecDepth 100000 in
theorem fnAnswer_any (id : Int) (nm : ByteArray) (xs : List Int) (has : Bool) (Av : Option Addr) (cv : Nat) (w : World) (hC : B8.C w Av xs.length xs) (hid : -9223372036854775808 ≤ id ∧ id ≤ 9223372036854775807) (va ua : Addr) (hE : EofAt w va ua) :
    Calls Tryz.prog 3 #[.int .i64 id, .string nm, .slice Av xs.length cv, .bool has] w fun e w' => e = .returned (.bool true) ∧ Below w.heap.size w w' := by
  have HB := Lib.hid (Below.refl w.heap.size w)
  by_cases h0 : 2147483647 < nm.size
  · have e1 : decide (2147483647 < (nm.size : Int)) = true := decide_eq_true (by omega)
    have e2 : decide (2147483647 < nm.size) = true := decide_eq_true h0
    clear h0 hE hC
    go_enter Tryz.func3, Tryz.ntmps3
    go_wp2
    go_ret
    exact ⟨rfl, HB.out⟩
  have e0_1 : decide (2147483647 < (nm.size : Int)) = false := decide_eq_false (by omega)
  have e0_2 : decide (2147483647 < nm.size) = false := decide_eq_false h0
  by_cases h1 : 2147483647 < xs.length
  · have e1 : decide (2147483647 < (xs.length : Int)) = true := decide_eq_true (by omega)
    have e2 : decide (2147483647 < xs.length) = true := decide_eq_true h1
    clear h0 h1 hE hC
    go_enter Tryz.func3, Tryz.ntmps3
    go_wp2
    go_ret
    exact ⟨rfl, HB.out⟩
  have e1_1 : decide (2147483647 < (xs.length : Int)) = false := decide_eq_false (by omega)
  have e1_2 : decide (2147483647 < xs.length) = false := decide_eq_false h1
  clear h0 h1
  have HCV : Hid (∀ W, Below w.heap.size w W → (convert 22 9 (.slice Av xs.length cv)).run Tryz.prog W = .ok (.string (strOfNums xs)) W) := Lib.hid (fun W hb => Kd.C_string Tryz.underlying22 Tryz.underlying5 Tryz.underlying9 (Kd.C_below hC hb))
  have hcv : (convert 22 9 (.slice Av xs.length cv)).run Tryz.prog w = .ok (.string (strOfNums xs)) w := HCV.out w (Below.refl _ _)
  obtain ⟨s, hs⟩ : ∃ s, s = strOfNums xs := ⟨_, rfl⟩
  rw [← hs] at HCV hcv
  clear hs hC
  have HSH : Hid (∀ W, W = w.alloc (.cells #[.string nm, .string s] 9) → Calls Tryz.prog 7 #[.slice (some ⟨w.heap.size, 0, none⟩) 2 2] W fun e w' => e = .returned (.bool (shortT [nm, s])) ∧ Below w.heap.size w w') := Lib.hid (fun W hW => by
    have hb : W.heap[w.heap.size]? = some (.cells #[.string nm, .string s] 9 (0, 0)) := by rw [hW]; exact blk_new _ _
    have hB : Below w.heap.size w W := by rw [hW]; exact below_alloc (Below.refl _ _) _
    refine (short_any [nm, s] (some ⟨w.heap.size, 0, none⟩) 2 W (strs_block hb rfl (by simp)) (Nat.le_refl _) (by simp)).mono ?_
    rintro e w' ⟨he, hb'⟩
    exact ⟨he, hB.trans (hb'.mono hB.size)⟩)
  obtain ⟨sh, hsh⟩ : ∃ b, b = shortT [nm, s] := ⟨_, rfl⟩
  rw [← hsh] at HSH
  by_cases hs0 : sh = false
  · subst hs0
    clear hsh hE hid
    go_enter Tryz.func3, Tryz.ntmps3
    go_wp2_with (first
        | (go_at_call 7
           refine (HSH.out _ rfl).mono ?_
           rintro e W1 ⟨rfl, hB1⟩
           have HB1 := Lib.hid hB1
           clear hB1)
        | (go_at_call 8
           refine (works_any _).mono ?_
           rintro e W9 ⟨rfl, hB9⟩))
    go_ret
    exact ⟨rfl, HB1.out.trans (hB9.mono HB1.out.size)⟩
  obtain rfl : sh = true := by simpa using hs0
  have hsz : nm.size ≤ 200 ∧ s.size ≤ 200 := by
    have := hsh.symm
    simp only [shortT, List.all_cons, List.all_nil, Bool.and_true, Bool.and_eq_true, decide_eq_true_eq] at this
    exact ⟨this.1.1, this.1.2⟩
  have HSZ := Lib.hid hsz
  clear hs0 hsh hsz
  obtain ⟨em, hem⟩ : ∃ b, b = nm.toList.isEmpty := ⟨_, rfl⟩
  by_cases hm0 : em = true
  · subst hm0
    have hne : nm.toList.isEmpty = true := hem.symm
    clear hem hE hid
    go_enter Tryz.func3, Tryz.ntmps3
    go_wp2_with (first
        | (go_at_call 7
           refine (HSH.out _ rfl).mono ?_
           rintro e W1 ⟨rfl, hB1⟩
           have HB1 := Lib.hid hB1
           clear hB1)
        | (go_at_call 8
           refine (works_any _).mono ?_
           rintro e W9 ⟨rfl, hB9⟩))
    go_ret
    exact ⟨rfl, HB1.out.trans (hB9.mono HB1.out.size)⟩
  obtain rfl : em = false := by simpa using hm0
  have hne : nm.toList.isEmpty = false := hem.symm
  clear hem hm0
  by_cases hc0 : id < 0
  · have t0_0 : decide (id < 0) = true := decide_eq_true (by omega)
    clear hE hid hc0
    go_enter Tryz.func3, Tryz.ntmps3
    go_wp2_with (first
        | (go_at_call 7
           refine (HSH.out _ rfl).mono ?_
           rintro e W1 ⟨rfl, hB1⟩
           have HB1 := Lib.hid hB1
           clear hB1)
        | (go_at_call 8
           refine (works_any _).mono ?_
           rintro e W9 ⟨rfl, hB9⟩))
    go_ret
    exact ⟨rfl, HB1.out.trans (hB9.mono HB1.out.size)⟩
  have f0_0 : decide (id < 0) = false := decide_eq_false (by omega)
  clear hc0
  by_cases hc1 : 2147483648 ≤ id
  · have t1_0 : decide (id ≥ 2147483648) = true := decide_eq_true (by omega)
    have t1_1 : decide (2147483648 ≤ id) = true := decide_eq_true (by omega)
    clear hE hid hc1
    go_enter Tryz.func3, Tryz.ntmps3
    go_wp2_with (first
        | (go_at_call 7
           refine (HSH.out _ rfl).mono ?_
           rintro e W1 ⟨rfl, hB1⟩
           have HB1 := Lib.hid hB1
           clear hB1)
        | (go_at_call 8
           refine (works_any _).mono ?_
           rintro e W9 ⟨rfl, hB9⟩))
    go_ret
    exact ⟨rfl, HB1.out.trans (hB9.mono HB1.out.size)⟩
  have f1_0 : decide (id ≥ 2147483648) = false := decide_eq_false (by omega)
  have f1_1 : decide (2147483648 ≤ id) = false := decide_eq_false (by omega)
  clear hc1
  cases has with
  | false =>
    have HFI := Lib.hid (ansT_fine0 id nm hid (by have := HSZ.out; omega))
    have HIS := Lib.hid (ansT_is id nm [] (by simp))
    have HSA : Hid (∀ (A : Option Addr) (c : Nat) (W : World), Kd.string.C W A 0 ([] : List ByteArray) → Calls Tryz.prog 12 #[.string nm, .slice A 0 c] W (Nw W.heap.size W (ansO nm []))) := Lib.hid (fun A c W h => sAns_nw nm [] A c W h (by have := HSZ.out; omega) (fun t ht => absurd ht (by simp)) (by simp))
    have HME : Hid (∀ (A3 : Option Addr) (c3 : Nat) (A4 : Option Addr) (c4 : Nat) (W : World), (∃ b, Lies b W (ansO nm []) A3 c3 A4 c4) → Calls Tryz.prog 11 #[.int .i64 id, .agg #[.int .i64 (ansO nm []).f0, .int .i64 (ansO nm []).f1, .bool (ansO nm []).f2, .slice A3 (ansO nm []).f3.length c3, .slice A4 (ansO nm []).f4.length c4], .slice none 0 0] W (Got W (ansT id nm []))) := Lib.hid (fun A3 c3 A4 c4 W h => by
      obtain ⟨b, hl⟩ := h
      exact sMsg_any id hid _ A3 c3 A4 c4 [] none 0 W hl.1 (Kd.F_now hl.2.1) hl.2.2.1 (Kd.F_now hl.2.2.2) (Nat.le_refl _) (Kd.C_nil _ _))
    obtain ⟨xr, hxr⟩ : ∃ x, x = ansO nm [] := ⟨_, rfl⟩
    rw [← hxr] at HSA HME
    obtain ⟨x, hx⟩ : ∃ x, x = ansT id nm [] := ⟨_, rfl⟩
    rw [← hx] at HME HFI HIS
    have HPL : Hid (∀ (A3 : Option Addr) (c3 : Nat) (A4 : Option Addr) (c4 : Nat) (W : World), (Kd.int .u8).C W A3 x.f3.length x.f3 → x.f3.length ≤ c3 → k34.C W A4 x.f4.length x.f4 → x.f4.length ≤ c4 → Calls Tryz.prog 10 #[.agg #[.int .i64 x.f0, .int .i64 x.f1, .bool x.f2, .slice A3 x.f3.length c3, .slice A4 x.f4.length c4]] W (Pln W W x A3 c3)) := Lib.hid (fun A3 c3 A4 c4 W h3 l3 h4 l4 => plain_any W (dpx x) x (Nat.le_refl _) (Nat.le_trans HFI.out.t (by decide)) A3 c3 A4 c4 W h3 l3 h4 l4 (Below.refl _ _))
    have HAN : Hid (∀ (A3 : Option Addr) (c3 : Nat) (A4 : Option Addr) (c4 : Nat) (W : World), B8.C W A3 x.f3.length x.f3 → k30.C W A4 (plL x.f4).length (plL x.f4) → Below w.heap.size w W → Calls Tryz.prog 9 #[.agg #[.int .i64 x.f0, .int .i64 x.f1, .bool x.f2, .slice A3 x.f3.length c3, .slice A4 (plL x.f4).length c4]] W fun e w' => e = .returned (.tuple #[.string nm, .slice none 0 0, .bool false, .bool true]) ∧ Below W.heap.size W w') := Lib.hid (fun A3 c3 A4 c4 W h3 h4 hb => answer_x0 x HFI.out (by have h := HIS.out; rw [List.map_nil, rdL] at h; exact h) W A3 c3 A4 c4 h3 h4 va ua (eof_below hE hb))
    clear hE hid hx hxr
    go_enter Tryz.func3, Tryz.ntmps3
    go_wp2_with (first
        | (go_at_call 7
           refine (HSH.out _ rfl).mono ?_
           rintro e W1 ⟨rfl, hB1⟩
           have hcv1 := HCV.out W1 hB1
           have HB1 := Lib.hid hB1
           clear hB1)
        | (go_at_call 12
           obtain ⟨W2, hW2⟩ : ∃ W2, W2 = W1 := ⟨_, rfl⟩
           rw [← hW2]
           have HB2 : Hid (Below w.heap.size w W2) := Lib.hid (by rw [hW2]; exact HB1.out)
           clear hW2
           with_reducible refine (HSA.out none 0 W2 (Kd.C_nil _ _)).mono ?_
           rintro e W3 h3
           obtain ⟨A3, c3, A4, c4, rfl, hl, hB⟩ := h3.open
           have HL3 := Lib.hid hl
           have HB3 := Lib.hid (HB2.out.trans (hB.mono HB2.out.size))
           clear hl hB)
        | (go_at_call 11
           with_reducible refine (HME.out A3 c3 A4 c4 W3 ⟨_, HL3.out⟩).mono ?_
           rintro e W4 ⟨B3, d3, B4, d4, rfl, l3, g3, l4, g4, hB⟩
           have HP4 := Lib.hid (HPL.out B3 d3 B4 d4 W4 g3 l3 g4 l4)
           have HG4 := Lib.hid g3
           have HB4 := Lib.hid (HB3.out.trans (hB.mono HB3.out.size))
           clear l3 g3 l4 g4 hB)
        | (go_at_call 10
           with_reducible refine HP4.out.mono ?_
           rintro e W5 ⟨E4, q4, rfl, l4, g4, hB⟩
           have HG5 := Lib.hid (Kd.C_below HG4.out hB)
           have HK5 := Lib.hid (Kd.F_now g4)
           have HB5 := Lib.hid (HB4.out.trans (hB.mono HB4.out.size))
           clear l4 g4 hB)
        | (go_at_call 9
           with_reducible refine (HAN.out B3 d3 E4 q4 W5 HG5.out HK5.out HB5.out).mono ?_
           rintro e W6 ⟨rfl, hB6⟩
           have HB6 := Lib.hid (HB5.out.trans (hB6.mono HB5.out.size))
           skip
           clear hB6)
        | (go_at_call 8
           refine (works_any _).mono ?_
           rintro e W9 ⟨rfl, hB9⟩))
    go_ret
    exact ⟨rfl, HB6.out.trans (hB9.mono HB6.out.size)⟩

  | true =>
    have HFI := Lib.hid (ansT_fine1 id nm s hid (by have := HSZ.out; omega) (by have := HSZ.out; omega))
    have HIS := Lib.hid (ansT_is id nm [s] (by simp))
    have HSA : Hid (∀ (A : Option Addr) (c : Nat) (W : World), Kd.string.C W A 1 ([s] : List ByteArray) → Calls Tryz.prog 12 #[.string nm, .slice A 1 c] W (Nw W.heap.size W (ansO nm [s]))) := Lib.hid (fun A c W h => sAns_nw nm [s] A c W h (by have := HSZ.out; omega) (fun t ht => by have h := HSZ.out; rw [List.mem_singleton.1 ht]; omega) (by simp))
    have HME : Hid (∀ (A3 : Option Addr) (c3 : Nat) (A4 : Option Addr) (c4 : Nat) (W : World), (∃ b, Lies b W (ansO nm [s]) A3 c3 A4 c4) → Calls Tryz.prog 11 #[.int .i64 id, .agg #[.int .i64 (ansO nm [s]).f0, .int .i64 (ansO nm [s]).f1, .bool (ansO nm [s]).f2, .slice A3 (ansO nm [s]).f3.length c3, .slice A4 (ansO nm [s]).f4.length c4], .slice none 0 0] W (Got W (ansT id nm [s]))) := Lib.hid (fun A3 c3 A4 c4 W h => by
      obtain ⟨b, hl⟩ := h
      exact sMsg_any id hid _ A3 c3 A4 c4 [] none 0 W hl.1 (Kd.F_now hl.2.1) hl.2.2.1 (Kd.F_now hl.2.2.2) (Nat.le_refl _) (Kd.C_nil _ _))
    obtain ⟨xr, hxr⟩ : ∃ x, x = ansO nm [s] := ⟨_, rfl⟩
    rw [← hxr] at HSA HME
    obtain ⟨x, hx⟩ : ∃ x, x = ansT id nm [s] := ⟨_, rfl⟩
    rw [← hx] at HME HFI HIS
    have HPL : Hid (∀ (A3 : Option Addr) (c3 : Nat) (A4 : Option Addr) (c4 : Nat) (W : World), (Kd.int .u8).C W A3 x.f3.length x.f3 → x.f3.length ≤ c3 → k34.C W A4 x.f4.length x.f4 → x.f4.length ≤ c4 → Calls Tryz.prog 10 #[.agg #[.int .i64 x.f0, .int .i64 x.f1, .bool x.f2, .slice A3 x.f3.length c3, .slice A4 x.f4.length c4]] W (Pln W W x A3 c3)) := Lib.hid (fun A3 c3 A4 c4 W h3 l3 h4 l4 => plain_any W (dpx x) x (Nat.le_refl _) (Nat.le_trans HFI.out.t (by decide)) A3 c3 A4 c4 W h3 l3 h4 l4 (Below.refl _ _))
    have HAN : Hid (∀ (A3 : Option Addr) (c3 : Nat) (A4 : Option Addr) (c4 : Nat) (W : World), B8.C W A3 x.f3.length x.f3 → k30.C W A4 (plL x.f4).length (plL x.f4) → Below w.heap.size w W → Calls Tryz.prog 9 #[.agg #[.int .i64 x.f0, .int .i64 x.f1, .bool x.f2, .slice A3 x.f3.length c3, .slice A4 (plL x.f4).length c4]] W fun e w' => ∃ A5 d5, e = .returned (.tuple #[.string nm, .slice A5 (bytesOf s).length d5, .bool true, .bool true]) ∧ B8.C w' A5 (bytesOf s).length (bytesOf s) ∧ Below W.heap.size W w') := Lib.hid (fun A3 c3 A4 c4 W h3 h4 hb => answer_x1 x HFI.out (rdPk (tX 11 s)) (by have h := HIS.out; rw [List.map_cons, List.map_nil, rdL, rdL] at h; exact h) (by show (bytesOf s).length ≤ 1000000; rw [bytesOf_length]; have := HSZ.out; omega) W A3 c3 A4 c4 h3 h4 va ua (eof_below hE hb))
    clear hE hid hx hxr
    go_enter Tryz.func3, Tryz.ntmps3
    go_wp2_with (first
        | (go_at_call 7
           refine (HSH.out _ rfl).mono ?_
           rintro e W1 ⟨rfl, hB1⟩
           have hcv1 := HCV.out W1 hB1
           have HB1 := Lib.hid hB1
           clear hB1)
        | (go_at_call 12
           obtain ⟨W2, hW2⟩ : ∃ W2, W2 = W1.alloc (.cells #[.string s] 9) := ⟨_, rfl⟩
           rw [← hW2]
           have hb2 : Below W1.heap.size W1 W2 := by rw [hW2]; exact below_alloc (Below.refl _ _) _
           have hC2 : Kd.string.C W2 (some ⟨W1.heap.size, 0, none⟩) 1 [s] := strs_block (l := [s]) (by rw [hW2]; exact blk_new _ _) rfl (by simp)
           have HB2 := Lib.hid (HB1.out.trans (hb2.mono HB1.out.size))
           clear hW2 hb2
           with_reducible refine (HSA.out (some ⟨W1.heap.size, 0, none⟩) 1 W2 hC2).mono ?_
           rintro e W3 h3
           obtain ⟨A3, c3, A4, c4, rfl, hl, hB⟩ := h3.open
           have HL3 := Lib.hid hl
           have HB3 := Lib.hid (HB2.out.trans (hB.mono HB2.out.size))
           clear hl hB)
        | (go_at_call 11
           with_reducible refine (HME.out A3 c3 A4 c4 W3 ⟨_, HL3.out⟩).mono ?_
           rintro e W4 ⟨B3, d3, B4, d4, rfl, l3, g3, l4, g4, hB⟩
           have HP4 := Lib.hid (HPL.out B3 d3 B4 d4 W4 g3 l3 g4 l4)
           have HG4 := Lib.hid g3
           have HB4 := Lib.hid (HB3.out.trans (hB.mono HB3.out.size))
           clear l3 g3 l4 g4 hB)
        | (go_at_call 10
           with_reducible refine HP4.out.mono ?_
           rintro e W5 ⟨E4, q4, rfl, l4, g4, hB⟩
           have HG5 := Lib.hid (Kd.C_below HG4.out hB)
           have HK5 := Lib.hid (Kd.F_now g4)
           have HB5 := Lib.hid (HB4.out.trans (hB.mono HB4.out.size))
           clear l4 g4 hB)
        | (go_at_call 9
           with_reducible refine (HAN.out B3 d3 E4 q4 W5 HG5.out HK5.out HB5.out).mono ?_
           rintro e W6 ⟨A5, d5, rfl, hC6, hB6⟩
           have HB6 := Lib.hid (HB5.out.trans (hB6.mono HB5.out.size))
           have hcv6 := HCV.out W6 HB6.out
           have hcv7 : (convert 22 9 (.slice A5 (bytesOf s).length d5)).run Tryz.prog W6 = .ok (.string s) W6 := by
             have := Kd.C_string Tryz.underlying22 Tryz.underlying5 Tryz.underlying9 (c := d5) hC6
             rw [so_bo] at this
             exact this
           clear hC6
           clear hB6)
        | (go_at_call 8
           refine (works_any _).mono ?_
           rintro e W9 ⟨rfl, hB9⟩))
    go_ret
    exact ⟨rfl, HB6.out.trans (hB9.mono HB6.out.size)⟩
end Go.Proofs.YteockihoefbmdaaGreatDoor.Ber
