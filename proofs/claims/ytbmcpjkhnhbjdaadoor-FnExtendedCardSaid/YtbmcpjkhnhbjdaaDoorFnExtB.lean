/- spec.Extended: the packet of an extended request. · spec.Identifier's bytes are those of the package's identifier. · The bytes of a packet as data; the reference's Bytes gives them. · spec.NewPassword: the packet of a request to change a password. -/
import Derived.Test.YtbmcpjkhnhbjdaaDoorKRow
import Derived.Test.YtbmcpjkhnhbjdaaDoorIdent
import Derived.Test.YtbmcpjkhnhbjdaaDoorPFnEncodex3
import Derived.Test.YtbmcpjkhnhbjdaaDoorAnswer
import Derived.Test.YtbmcpjkhnhbjdaaDoorSame
namespace Go.Proofs.YtbmcpjkhnhbjdaaDoor.Ber
open Go.RowKit Go.Proofs.YtbmcpjkhnhbjdaaDoorW.PrintWords Go.Proofs.YtbmcpjkhnhbjdaaDoor.PFnEncode Go.Proofs.YtbmcpjkhnhbjdaaDoorW.PrintLast Go.Proofs.YtbmcpjkhnhbjdaaDoor.Tree Go.Proofs.YtbmcpjkhnhbjdaaDoor.Buf Go.Proofs.YtbmcpjkhnhbjdaaDoor.Pk Go.Proofs.YtbmcpjkhnhbjdaaDoor.Within Go.Proofs.YtbmcpjkhnhbjdaaDoor.Num
set_option linter.unusedVariables false
set_option linter.unusedSimpArgs false
/-- one element, laid into a new block -/
theorem N_one {α : Type} {d : Kd α} {e : Nat} {W0 W : World} {base : Nat} {ok : Nat → Prop} {x : α} {c : List Value} (hW : W = W0.alloc (.cells c.toArray e)) (hb : base ≤ W0.heap.size) (hok : ok W0.heap.size) (hx : Kd.FK d W0 (fun k => ok k ∧ k < W0.heap.size) x c) : Kd.N d e W base ok (.slice (some ⟨W0.heap.size, 0, none⟩) 1 1) [x] := by
  have hB : Below W0.heap.size W0 W := by rw [hW]; exact below_alloc (Below.refl _ _) _
  have hbl : W.heap[W0.heap.size]? = some (.cells c.toArray e (0, 0)) := by rw [hW]; exact blk_new _ _
  have hlen := d.K_len (Kd.FK_now hx)
  have hone := d.K_one (Kd.FK_now hx)
  refine ⟨fun k hk => ?_, [c], rfl, ⟨fun k hk => hk.symm, c, ?_, ?_⟩, fun j y c' h1 h2 => ?_⟩
  · have : W0.heap.size = k := by simpa [Value.ownBlock] using hk
    rw [← this]
    exact hok
  · exact ⟨by show c.length = 1 * d.sz; rw [hlen, Nat.one_mul], .inr ⟨W0.heap.size, 1, _, rfl, hb, hbl, Nat.le_refl _, by unfold maxLen; omega, by show c.toArray.size = 1 * d.sz; simp [hlen], by rw [List.toList_toArray, List.length_singleton, Nat.one_mul]; exact List.take_of_length_le (by rw [hlen]; exact Nat.le_refl _)⟩⟩
  · exact Reps.snoc (Reps.none _ d.sz) (p := c) ⟨rfl, hlen, hone⟩ hlen
  · rcases j with _ | j
    · have e1 : x = y := by simpa using h1
      have e2 : c = c' := by simpa using h2
      subst e1
      subst e2
      exact Kd.FK_mono (Kd.FK_below hx hB) (fun k hk => ⟨hk.1, fun he => by
        have : k = W0.heap.size := by simpa [Value.ownBlock] using he
        omega⟩)
    · simp at h1

/-- a packet in block g; its kids so far lie from lo on, not in g -/
structure AccL (lo g : Nat) (W : World) (a0 a1 : Int) (a2 : Bool) (v : Value) (l : List S33) : Prop where
  hg : W.heap[g]? = some (.cells #[.int .i64 a0, .int .i64 a1, .bool a2, .slice none 0 0, v] 33 (0, 0))
  row : Kd.N k33 33 W lo (fun k => lo ≤ k ∧ k ≠ g) v l
  le : lo ≤ g
section
variable {lo g : Nat} {W W' w1 : World} {a0 a1 : Int} {a2 : Bool} {v v1 : Value} {l : List S33}
theorem AccL.below (h : AccL lo g W a0 a1 a2 v l) (hb : Below W.heap.size W W') : AccL lo g W' a0 a1 a2 v l := ⟨blk_below h.hg hb, Kd.N_below h.row hb, h.le⟩
theorem AccL.ne (h : AccL lo g W a0 a1 a2 v l) : some g ≠ v.ownBlock := Kd.N_away h.row (fun k hk => hk.2)
theorem AccL.lt (h : AccL lo g W a0 a1 a2 v l) : g < W.heap.size := blk_lt h.hg
theorem AccL.base (h : AccL lo g W a0 a1 a2 v l) : lo ≤ W.heap.size := Nat.le_trans h.le (Nat.le_of_lt h.lt)
theorem AccL.fresh (h : AccL lo g W a0 a1 a2 v l) : ∀ k, W.heap.size ≤ k → lo ≤ k ∧ k ≠ g := fun k hk => ⟨Nat.le_trans h.base hk, by have := h.lt; omega⟩
theorem AccL.app (h : AccL lo g W a0 a1 a2 v l) {x : S33} (hR : Kd.N k33 33 w1 lo (fun k => lo ≤ k ∧ k ≠ g) v1 (l ++ [x])) (hg : W.grownBy w1 v.ownBlock) : AccL lo g (w1.setCell ⟨g, 4, none⟩ v1) a0 a1 a2 v1 (l ++ [x]) :=
  ⟨blk_set (blk_grown h.hg hg h.ne) 4 v1, Kd.N_far hR (p := ⟨g, 4, none⟩) (fun k hk => hk.2) v1, h.le⟩
theorem AccL.kid {b : Nat} {x : S33} {A3 : Option Addr} {c3 : Nat} {A4 : Option Addr} {c4 : Nat} (hx : Lies b W' x A3 c3 A4 c4) (h : AccL lo g W a0 a1 a2 v l) (hb : W.heap.size ≤ b) : Kd.FK k33 W' (fun k => (lo ≤ k ∧ k ≠ g) ∧ some k ≠ v.ownBlock) x (cellsP x A3 c3 A4 c4) :=
  Kd.FK_mono hx.fk (fun k hk => ⟨h.fresh k (Nat.le_trans hb hk), fun e => by have := Kd.N_lt h.row k e.symm; omega⟩)
theorem AccL.lies (h : AccL lo g W a0 a1 a2 v l) : ∃ A c, v = .slice A l.length c ∧ Lies lo W ⟨a0, a1, a2, [], l⟩ none 0 A c := by
  obtain ⟨A, c, rfl, hc, _⟩ := Kd.N_reads h.row
  exact ⟨A, c, rfl, Nat.le_refl _, Kd.F_nil _ _ _, hc, Kd.F_mono (Kd.N_F h.row) (fun k hk => hk.1)⟩
end
theorem str_atS {w : World} {A : Option Addr} {l : List ByteArray} (h : Kd.string.C w A l.length l) {k : Nat} (hk : k < l.length) : ∃ ad, A = some ad ∧ w.cell? (ad.add k) = some (.string l[k]) := by
  obtain ⟨ad, c, e, _, hK, hc0⟩ := Kd.C_get h (⟨#[]⟩ : ByteArray) (k : Int) (by omega) (by omega)
  refine ⟨ad, e, ?_⟩
  have hK' : c = [.string (l.getD (k : Int).toNat ⟨#[]⟩)] := hK
  rw [Int.toNat_natCast, List.getD_eq_getElem?_getD, List.getElem?_eq_getElem hk] at hK'
  have := hc0 0 (.string l[k]) (by rw [hK']; rfl)
  rw [Int.toNat_natCast] at this
  have e1 : k * Kd.string.sz + 0 = k := by show k * 1 + 0 = k; omega
  rwa [e1] at this
/-- a tagged text -/
def tX (i : Int) (s : ByteArray) : S33 := ⟨2, i, false, bytesOf s, []⟩
set_option maxHeartbeats 3200000 in
set_option maxRecDepth 100000 in
theorem sExt_nw (oid : ByteArray) (l : List ByteArray) (A : Option Addr) (c : Nat) (w : World) (hC : Kd.string.C w A l.length l) (hoid : oid.size ≤ 1000000) (hl : ∀ s, s ∈ l → s.size ≤ 1000000) (hn : l.length ≤ 1000) :
    Calls Tryd.prog 27 #[.string oid, .slice A l.length c] w (Nw w.heap.size w (tOp 23 ([tX 0 oid] ++ l.map (tX 1)))) := by
  have HC := Lib.hid hC
  have HO1 : Hid (∀ W, Calls Tryd.prog 47 #[.string oid] W (Nw W.heap.size W (tO oid))) := Lib.hid (fun W => octets_nw oid W (by omega))
  have HOL : Hid (∀ s, s ∈ l → ∀ W, Calls Tryd.prog 47 #[.string s] W (Nw W.heap.size W (tO s))) := Lib.hid (fun s hs W => octets_nw s W (by have := hl s hs; omega))
  have HT1 : Hid (∀ (A3 : Option Addr) (c3 : Nat) (A4 : Option Addr) (c4 : Nat) (b : Nat) (W : World), Lies b W (tO oid) A3 c3 A4 c4 → b ≤ W.heap.size → Calls Tryd.prog 51 #[.int .i64 2, .int .i64 0, .agg #[.int .i64 (tO oid).f0, .int .i64 (tO oid).f1, .bool (tO oid).f2, .slice A3 (tO oid).f3.length c3, .slice A4 (tO oid).f4.length c4]] W (Nw b W (tX 0 oid))) := Lib.hid (fun A3 c3 A4 c4 b W h hb => tagged_nw 2 0 (tO oid) A3 c3 A4 c4 W h.1 h.2.1 h.2.2.1 h.2.2.2 hb)
  obtain ⟨xi, hxi⟩ : ∃ x, x = tO oid := ⟨_, rfl⟩
  obtain ⟨x1, hx1⟩ : ∃ x, x = tX 0 oid := ⟨_, rfl⟩
  rw [← hxi] at HO1 HT1
  rw [← hx1] at HT1 ⊢
  obtain ⟨y, hy⟩ : ∃ y, y = tOp 23 ([x1] ++ l.map (tX 1)) := ⟨_, rfl⟩
  rw [← hy]
  have HY := Lib.hid hy
  clear hy
  obtain ⟨W0, hW0⟩ : ∃ W0, W0 = w.alloc (.cells #[.int .i64 0, .int .i64 0, .bool false, .slice none 0 0, .slice none 0 0] 33) := ⟨_, rfl⟩
  have hb0 : Below w.heap.size w W0 := by rw [hW0]; exact below_alloc (Below.refl _ _) _
  have hs0 : W0.heap.size = w.heap.size + 1 := by rw [hW0]; simp
  have HB0 := Lib.hid hb0
  have HS0 := Lib.hid hs0
  have HZ0 : Hid (W0.heap[w.heap.size]? = some (.cells #[.int .i64 0, .int .i64 0, .bool false, .slice none 0 0, .slice none 0 0] 33 (0, 0))) := Lib.hid (by rw [hW0]; exact blk_new _ _)
  have HW0 := Lib.hid hW0
  clear hxi hx1 hC hoid hl hb0 hs0 hW0
  go_enter Tryd.func27, Tryd.ntmps27
  go_upto_region 2 with (first
    | (go_at_call 47
       rw [← HW0.out]
       with_reducible refine (HO1.out W0).mono ?_
       rintro e W1 h1
       obtain ⟨F3, f3, F4, f4, rfl, hl1, hB1⟩ := h1.open
       have HL1 := Lib.hid hl1
       have HB1 := Lib.hid hB1
       clear h1 hl1 hB1)
    | (go_at_call 51
       with_reducible refine (HT1.out F3 f3 F4 f4 W0.heap.size W1 HL1.out HB1.out.size).mono ?_
       rintro e W2 h2
       obtain ⟨E3, q3, E4, q4, rfl, hl2, hB2⟩ := h2.open
       have HL2 := Lib.hid hl2
       have HB2 := Lib.hid (HB1.out.trans (hB2.mono HB1.out.size))
       clear h2 hl2 hB2)
    | (go_at_call 46
       obtain ⟨V, hV⟩ : ∃ V, V = W2.alloc (.cells #[.int .i64 x1.f0, .int .i64 x1.f1, .bool x1.f2, .slice E3 x1.f3.length q3, .slice E4 x1.f4.length q4] 33) := ⟨_, rfl⟩
       rw [← hV]
       have hbV : Below W2.heap.size W2 V := by rw [hV]; exact below_alloc (Below.refl _ _) _
       have hsV : V.heap.size = W2.heap.size + 1 := by rw [hV]; simp
       have hN : ∀ g, W2.heap.size < g → Kd.N k33 33 V W0.heap.size (fun k => W0.heap.size ≤ k ∧ k ≠ g) (.slice (some ⟨W2.heap.size, 0, none⟩) 1 1) [x1] := fun g hg => N_one (c := cellsP x1 E3 q3 E4 q4) hV HB2.out.size ⟨HB2.out.size, by omega⟩ (Kd.FK_mono (Kd.FK_bound HL2.out.fk) (fun k hk => ⟨⟨hk.1, by have := hk.2; omega⟩, hk.2⟩))
       with_reducible refine (operation_ex 23 (some ⟨W2.heap.size, 0, none⟩) 1 1 V).mono ?_
       rintro e W3 ⟨rfl, hB3⟩
       have hb3 := hbV.trans (hB3.mono hbV.size)
       have HN3 : Hid (Kd.N k33 33 W3 W0.heap.size (fun k => W0.heap.size ≤ k ∧ k ≠ W3.heap.size) (.slice (some ⟨W2.heap.size, 0, none⟩) 1 1) [x1]) := Lib.hid (Kd.N_below (hN W3.heap.size (by have h1 := hB3.size; have h2 := hsV; omega)) hB3)
       have HB3 := Lib.hid (HB2.out.trans (hb3.mono HB2.out.size))
       clear hV hbV hsV hN hB3 hb3))
  obtain ⟨W4, hW4⟩ : ∃ W4, W4 = W3.alloc (.cells #[.int .i64 1, .int .i64 23, .bool true, .slice none 0 0, .slice (some ⟨W2.heap.size, 0, none⟩) 1 1] 33) := ⟨_, rfl⟩
  rw [← hW4]
  have hb4 : Below W3.heap.size W3 W4 := by rw [hW4]; exact below_alloc (Below.refl _ _) _
  have HI4 : Hid (AccL W0.heap.size W3.heap.size W4 1 23 true (.slice (some ⟨W2.heap.size, 0, none⟩) 1 1) [x1]) := Lib.hid ⟨by rw [hW4]; exact blk_new _ _, Kd.N_below HN3.out hb4, HB3.out.size⟩
  have HG : Hid (w.heap.size + 1 ≤ W3.heap.size) := Lib.hid (by have := HB3.out.size; have := HS0.out; omega)
  have HB4 : Hid (Below w.heap.size w W4) := Lib.hid ((HB0.out.trans (HB3.out.mono HB0.out.size)).trans (hb4.mono (by have := HG.out; omega)))
  have HZ4 := Lib.hid (blk_below (blk_below HZ0.out HB3.out) hb4)
  clear hW4 hb4
  obtain ⟨g, hg⟩ : ∃ g, g = W3.heap.size := ⟨_, rfl⟩
  rw [← hg] at HI4 HG ⊢
  rw [HS0.out] at HI4
  clear hg
  go_wp2
  go_loopw [15] (fun i wr => ∃ k : Nat, i = .int .i64 k ∧ k ≤ l.length ∧ Hid (∃ v, AccL (w.heap.size + 1) g wr 1 23 true v ([x1] ++ (l.take k).map (tX 1))) ∧ Hid (Below (w.heap.size + 1) W4 wr)) (fun i _ => l.length - (intOf i).toNat)
  case atStart => exact ⟨0, rfl, Nat.zero_le _, Lib.hid ⟨_, by rw [List.take_zero, List.map_nil, List.append_nil]; exact HI4.out⟩, Lib.hid (Below.refl _ _)⟩
  case round =>
    obtain ⟨k, rfl, hk, HI3, HBr⟩ := hrel
    obtain ⟨v, HI9⟩ := HI3.out
    have HI := Lib.hid HI9
    clear HI3 HI9
    have HBW : Hid (Below w.heap.size w wr) := Lib.hid (HB4.out.trans (HBr.out.mono (Nat.le_succ _)))
    by_cases hlt : k < l.length
    · obtain ⟨ad, rfl, hcell⟩ := str_atS HC.out hlt
      replace hcell := (HBW.out.cell (World.block_lt_of_cell? w _ hcell)).trans hcell
      have HST : Hid (([x1] ++ (l.take k).map (tX 1)) ++ [tX 1 l[k]] = [x1] ++ (l.take (k + 1)).map (tX 1)) := Lib.hid (by rw [List.take_succ_eq_append_getElem hlt, List.map_append, List.append_assoc]; rfl)
      have HLE : Hid ((([x1] ++ (l.take k).map (tX 1)).length + 1) * 72 ≤ 140737488355328) := Lib.hid (by rw [List.length_append, List.length_map, List.length_take, List.length_singleton]; omega)
      have HOS := Lib.hid (HOL.out l[k] (List.getElem_mem hlt))
      obtain ⟨s, hs⟩ : ∃ s, s = l[k] := ⟨_, rfl⟩
      obtain ⟨acc, hacc⟩ : ∃ acc, acc = [x1] ++ (l.take k).map (tX 1) := ⟨_, rfl⟩
      rw [← hs] at hcell HST HOS
      rw [← hacc] at HST HLE HI
      have HTG : Hid (∀ (A3 : Option Addr) (c3 : Nat) (A4 : Option Addr) (c4 : Nat) (b : Nat) (W : World), Lies b W (tO s) A3 c3 A4 c4 → b ≤ W.heap.size → Calls Tryd.prog 51 #[.int .i64 2, .int .i64 1, .agg #[.int .i64 (tO s).f0, .int .i64 (tO s).f1, .bool (tO s).f2, .slice A3 (tO s).f3.length c3, .slice A4 (tO s).f4.length c4]] W (Nw b W (tX 1 s))) := Lib.hid (fun A3 c3 A4 c4 b W h hb => tagged_nw 2 1 (tO s) A3 c3 A4 c4 W h.1 h.2.1 h.2.2.1 h.2.2.2 hb)
      obtain ⟨xo, hxo⟩ : ∃ x, x = tO s := ⟨_, rfl⟩
      obtain ⟨p, hp⟩ : ∃ p, p = tX 1 s := ⟨_, rfl⟩
      rw [← hxo] at HTG HOS
      rw [← hp] at HST HTG
      clear hs hacc hxo hp
      go_wp2_with fail
      have hd : Below wr.heap.size wr wr.drew := (Below.refl _ _).drew
      have HI5 := Lib.hid (HI.out.below hd)
      have HB5 : Hid (Below (w.heap.size + 1) W4 wr.drew) := Lib.hid (HBr.out.trans (hd.mono HI.out.base))
      have s4 : wr.drew.cell? ⟨g, 4, none⟩ = some v := blk_cell HI5.out.hg 4
      clear hcell hd
      refine start_ (n := 9) (S := fun w' => w'.cell? ⟨g, 4, none⟩ = some v) (ds := [8]) #[false, false, false, false, false, false, false, false, false] (by kernel_rfl) rfl rfl (s4) (fun hHeld => ?_)
      refine pure_ (i := 0) (N := some 19) (v := ?_) (a' := ?_) #[true, false, false, false, false, false, false, false, false] rfl rfl (by kernel_rfl) (fun _ _ _ h => h) (Or.inl ⟨by rfl, ?_⟩) ?_ ?_
      rotate_left
      · intro w'
        go_simp
        with_reducible rfl
      rotate_left
      · simp only [Act.put, List.setIfInBounds_toArray, List.set_cons_zero, List.set_cons_succ, i64_w, i32_w]
        rfl
      refine pure_ (i := 2) (N := some 21) (v := ?_) (a' := ?_) #[true, false, true, false, false, false, false, false, false] rfl rfl (by kernel_rfl) (fun _ _ _ h => h) (Or.inl ⟨by rfl, ?_⟩) ?_ ?_
      rotate_left
      · intro w'
        go_simp
        with_reducible rfl
      rotate_left
      · simp only [Act.put, List.setIfInBounds_toArray, List.set_cons_zero, List.set_cons_succ, i64_w, i32_w]
        rfl
      refine take_ (i := 1) (N := some 20) (v := ?_) (a' := ?_) #[true, true, true, false, false, false, false, false, false] rfl rfl (by kernel_rfl) (fun _ _ _ h => h) (Or.inl ⟨by rfl, ?_⟩) hHeld ?_ ?_
      rotate_left
      · intro w' s0
        go_simp
        with_reducible rfl
      rotate_left
      · simp only [Act.put, List.setIfInBounds_toArray, List.set_cons_zero, List.set_cons_succ, i64_w, i32_w]
        rfl
      refine one_ (i := 3) (N := some 22) #[true, true, true, true, false, false, false, false, false] rfl rfl (by kernel_rfl) (by decide) (fun K hK => ?_)
      refine goes_ Tryd.func47 (by kernel_rfl) rfl #[.string s] (by rfl) rfl rfl (by simp only [List.map_toArray, List.map_cons, List.map_nil]; rfl) ?_
      with_reducible refine (HOS.out wr.drew).mono ?_
      rintro e W6 h6
      obtain ⟨F3, f3, F4, f4, rfl, hl6, hB6⟩ := h6.open
      refine ⟨_, rfl, ?_⟩
      have HL6 := Lib.hid hl6
      have HI6 := Lib.hid (HI5.out.below hB6)
      have HB6 := Lib.hid hB6
      clear h6 hl6 hB6
      refine hK.out _ _ (blk_cell HI6.out.hg 4) (fun hHeld => ?_)
      clear hK K
      refine norm_ (a' := ?_) ?_ ?_
      rotate_left
      · show Act.put _ (some 22) _ = _
        simp only [Act.put, List.setIfInBounds_toArray, List.set_cons_zero, List.set_cons_succ, i64_w, i32_w]
        rfl
      refine one_ (i := 4) (N := some 23) #[true, true, true, true, true, false, false, false, false] rfl rfl (by kernel_rfl) (by decide) (fun K hK => ?_)
      refine goes_ Tryd.func51 (by kernel_rfl) rfl #[.int .i64 2, .int .i64 1, .agg #[.int .i64 xo.f0, .int .i64 xo.f1, .bool xo.f2, .slice F3 xo.f3.length f3, .slice F4 xo.f4.length f4]] (by rfl) rfl rfl (by simp only [List.map_toArray, List.map_cons, List.map_nil]; rfl) ?_
      with_reducible refine (HTG.out F3 f3 F4 f4 wr.drew.heap.size W6 HL6.out HB6.out.size).mono ?_
      rintro e W7 h7
      obtain ⟨E3, q3, E4, q4, rfl, hl7, hB7⟩ := h7.open
      refine ⟨_, rfl, ?_⟩
      have HK7 := Lib.hid (AccL.kid hl7 HI5.out (Nat.le_refl _))
      have HI7 := Lib.hid (HI6.out.below hB7)
      have HB7 := Lib.hid (HB5.out.trans ((HB6.out.trans (hB7.mono HB6.out.size)).mono HI5.out.base))
      clear h7 hl7 hB7
      refine hK.out _ _ (blk_cell HI7.out.hg 4) (fun hHeld => ?_)
      clear hK K
      refine norm_ (a' := ?_) ?_ ?_
      rotate_left
      · show Act.put _ (some 23) _ = _
        simp only [Act.put, List.setIfInBounds_toArray, List.set_cons_zero, List.set_cons_succ, i64_w, i32_w]
        rfl
      refine one_ (i := 5) (N := some 24) #[true, true, true, true, true, true, false, false, false] rfl rfl (by kernel_rfl) (by decide) (fun K hK => ?_)
      refine value_ (w1 := ?_) (v := ?_) (by rfl) rfl ?_ ?_
      rotate_left 2
      · go_simp
        constructor
        · rfl
        · rfl
      refine hK.out _ _ (blk_cell (blk_alloc HI7.out.hg _) 4) (fun hHeld => ?_)
      clear hK K
      refine norm_ (a' := ?_) ?_ ?_
      rotate_left
      · show Act.put _ (some 24) _ = _
        simp only [Act.put, List.setIfInBounds_toArray, List.set_cons_zero, List.set_cons_succ, i64_w, i32_w]
        rfl
      refine one_ (i := 6) (N := some 25) #[true, true, true, true, true, true, true, false, false] rfl rfl (by kernel_rfl) (by decide) (fun K hK => ?_)
      refine Kd.N_append_step k33 (w0 := W7) (W := W7) (w.heap.size + 1) (by rfl) (.tmp 20) (.tmp 24) 31 33 (.agg #[.int .i64 0, .int .i64 0, .bool false, .slice none 0 0, .slice none 0 0]) 72 (by rfl) Tryd.underlying31 info_sp rfl (show 0 < 5 by decide) (by decide) v acc p _ (fun k => w.heap.size + 1 ≤ k ∧ k ≠ g) _ (by rfl) (by rfl) HK7.out (fun _ h => h) HI7.out.fresh HI7.out.row (Below.refl _ _) HI7.out.base HLE.out ?_
      intro v1 w1 hR hb hg hat
      have x0 : w1.cell? ⟨g, 4, none⟩ = some v := blk_cell (blk_grown HI7.out.hg hg HI7.out.ne) 4
      have xf : w1.frozen? ⟨g, 4, none⟩ = false := blk_frozen (blk_grown HI7.out.hg hg HI7.out.ne) 4
      obtain ⟨Aq, cq, hvq⟩ := Kd.N_slice hR
      have h8 := HI7.out.app hR hg
      have hb8 := HB7.out.trans (((hb.setCell (p := ⟨g, 4, none⟩) HI7.out.le v1)))
      obtain ⟨n, hn⟩ : ∃ n, n = (acc ++ [p]).length := ⟨_, rfl⟩
      rw [← hn] at hvq
      subst hvq
      have HI8 := Lib.hid h8
      have HB8 := Lib.hid hb8
      clear hR hb hg hat hn h8 hb8
      refine hK.out _ _ (x0) (fun hHeld => ?_)
      clear hK K
      refine norm_ (a' := ?_) ?_ ?_
      rotate_left
      · show Act.put _ (some 25) _ = _
        simp only [Act.put, List.setIfInBounds_toArray, List.set_cons_zero, List.set_cons_succ, i64_w, i32_w]
        rfl
      refine pure_ (i := 7) (N := some 26) (v := ?_) (a' := ?_) #[true, true, true, true, true, true, true, true, false] rfl rfl (by kernel_rfl) (fun _ _ _ h => h) (Or.inl ⟨by rfl, ?_⟩) ?_ ?_
      rotate_left
      · intro w'
        go_simp
        with_reducible rfl
      rotate_left
      · simp only [Act.put, List.setIfInBounds_toArray, List.set_cons_zero, List.set_cons_succ, i64_w, i32_w]
        rfl
      refine last_ (i := 8) (N := none) #[true, true, true, true, true, true, true, true, true] rfl rfl (by kernel_rfl) (by decide) (fun K hK => ?_)
      refine skip_ (w1 := ?_) (by rfl) rfl ?_ ?_
      rotate_left
      · go_simp
        rfl
      refine hK.out _ _ ?_
      clear hK K
      refine done_ (by kernel_rfl) ?_
      go_wp2
      exact ⟨⟨k + 1, by first | rfl | go_num, hlt, Lib.hid ⟨_, by rw [← HST.out]; exact HI8.out⟩, HB8⟩, by simp [intOf]; omega⟩
    · obtain rfl : k = l.length := by omega
      rw [List.take_length] at HI
      obtain ⟨m, hm⟩ : ∃ m, m = [x1] ++ l.map (tX 1) := ⟨_, rfl⟩
      have HYM : Hid (y = tOp 23 m) := Lib.hid (by rw [HY.out, hm])
      rw [← hm] at HI
      obtain ⟨Az, cz, hv, hlz⟩ := HI.out.lies
      subst hv
      have HLZ : Hid (Lies (w.heap.size + 1) wr (tOp 23 m) none 0 Az cz) := Lib.hid hlz
      have HZR : Hid (wr.heap[w.heap.size]? = some (.cells #[.int .i64 0, .int .i64 0, .bool false, .slice none 0 0, .slice none 0 0] 33 (0, 0))) := Lib.hid ((HBr.out.block w.heap.size (Nat.lt_succ_self _)).trans HZ4.out)
      have s0 : wr.cell? ⟨g, 0, none⟩ = some (.int .i64 1) := blk_cell HI.out.hg 0
      have s1 : wr.cell? ⟨g, 1, none⟩ = some (.int .i64 23) := blk_cell HI.out.hg 1
      have s2 : wr.cell? ⟨g, 2, none⟩ = some (.bool true) := blk_cell HI.out.hg 2
      have s3 : wr.cell? ⟨g, 3, none⟩ = some (.slice none 0 0) := blk_cell HI.out.hg 3
      have s4 : wr.cell? ⟨g, 4, none⟩ = some (.slice Az m.length cz) := blk_cell HI.out.hg 4
      have k0 : wr.cell? ⟨w.heap.size, 0, none⟩ = some (.int .i64 0) := blk_cell HZR.out 0
      have k1 : wr.cell? ⟨w.heap.size, 1, none⟩ = some (.int .i64 0) := blk_cell HZR.out 1
      have k2 : wr.cell? ⟨w.heap.size, 2, none⟩ = some (.bool false) := blk_cell HZR.out 2
      have k3 : wr.cell? ⟨w.heap.size, 3, none⟩ = some (.slice none 0 0) := blk_cell HZR.out 3
      have k4 : wr.cell? ⟨w.heap.size, 4, none⟩ = some (.slice none 0 0) := blk_cell HZR.out 4
      have kf0 := blk_frozen HZR.out 0
      have kf1 := blk_frozen HZR.out 1
      have kf2 := blk_frozen HZR.out 2
      have kf3 := blk_frozen HZR.out 3
      have kf4 := blk_frozen HZR.out 4
      clear hlz hm
      go_wp2
      obtain ⟨h5, hend⟩ := nw_end (b := w.heap.size) (B := w.heap.size + 1) (n := w.heap.size) (x := tOp 23 m) HBW.out (Nat.le_refl _) (fun k hk => by omega) (by omega) HZR.out HLZ.out.1 HLZ.out.2.1 HLZ.out.2.2.1 HLZ.out.2.2.2 rfl
      try simp only [Exit.inBlock, Exit.then]
      exact bodyPost_ret (results_c rfl _ _ _ _ _ _ _ rfl h5 Tryd.underlying33 rfl size33) rfl (by rw [HYM.out]; exact hend)
end Go.Proofs.YtbmcpjkhnhbjdaaDoor.Ber

namespace Go.Proofs.YtbmcpjkhnhbjdaaDoor.Ident
open Go.RowKit Go.Proofs.YtbmcpjkhnhbjdaaDoorW.PrintWords Go.Proofs.YtbmcpjkhnhbjdaaDoor.Num Go.Proofs.YtbmcpjkhnhbjdaaDoor.PFnEncode
set_option linter.unusedVariables false
set_option linter.unusedSimpArgs false


theorem and_low64 (x : Nat) (hx : x < 9223372036854775808) : Go.bits .and .i64 (x : Int) 127 = ((x % 128 : Nat) : Int) := by
  show IntKind.i64.wrap ((BitVec.ofInt 64 (x : Int) &&& BitVec.ofInt 64 127).toNat : Int) = _
  rw [BitVec.toNat_and, BitVec.toNat_ofInt, BitVec.toNat_ofInt]
  have e0 : ((2 ^ 64 : Nat) : Int) = 18446744073709551616 := by decide
  rw [e0]
  have e1 : ((x : Int) % 18446744073709551616).toNat = x := by omega
  have e2 : ((127 : Int) % 18446744073709551616).toNat = 2 ^ 7 - 1 := by decide
  rw [e1, e2, Nat.and_two_pow_sub_one_eq_mod]
  exact IntWalk.i64_in _ (by omega)

theorem spec_loop (cls : Int) (c : Bool) (h0 : 0 ≤ cls) (h1 : cls ≤ 3) (t : Nat) (ht : t < 268435456) : ∀ (m i : Nat), i + m = 6 → 1 ≤ i → ng (t / 128 ^ i) + i = ng t →
    spec_Identifier.l0 (m + 1) (cb cls c) ((low (t : Int) i).reverse) ((t / 128 ^ i : Nat) : Int) = some ((cb cls c + 31) :: (low (t : Int) (ng t)).reverse) := by
  intro m
  induction m with
  | zero =>
    intro i hi _ hn
    have := ng_le 4 t (by omega)
    omega
  | succ m ih =>
    intro i hi hi1 hn
    unfold spec_Identifier.l0
    by_cases hz : t / 128 ^ i = 0
    · rw [hz, if_neg (by omega)]
      rw [hz, ng_zero] at hn
      simp only [Option.bind_some]
      rw [if_pos (by simp [low_length]; omega), or_cb cls c 31 h0 h1 (by omega) (by omega), show i = ng t by omega]
      rfl
    · have hpos : ((t / 128 ^ i : Nat) : Int) > 0 := Int.natCast_pos.2 (Nat.pos_of_ne_zero hz)
      rw [if_pos hpos]
      simp only [Option.bind_some]
      rw [if_pos (by simp [low_length]; omega)]
      have hle : t / 128 ^ i ≤ t := Nat.div_le_self _ _
      rw [and_low64 _ (by omega)]
      have e := or_e ⟨t / 128 ^ i % 128, Nat.mod_lt _ (by omega)⟩
      simp only at e
      rw [show ((t / 128 ^ i % 128 : Nat) : Int) % 256 = ((t / 128 ^ i % 128 : Nat) : Int) by omega, e]
      have hd : ((t / 128 ^ i % 128 : Nat) : Int) + 128 = dig (t : Int) i := by
        obtain ⟨j, rfl⟩ : ∃ j, i = j + 1 := ⟨i - 1, by omega⟩
        rw [dig]
        push_cast
        rfl
      have h2 : (t / 128 ^ i) / 128 = t / 128 ^ (i + 1) := by rw [Nat.pow_succ, Nat.div_div_eq_div_mul]
      have hr := ih (i + 1) (by omega) (by omega) (by rw [ng_pos hz, h2] at hn; omega)
      rw [low_snoc, List.reverse_append, ← hd, ← h2] at hr
      rw [← hr]
      congr 1

theorem spec_ident (cls tag : Int) (c : Bool) (d : List Int) (ks : List S33) (h0 : 0 ≤ cls) (h1 : cls ≤ 3) (t0 : 0 ≤ tag) (t1 : tag < 268435456) : spec_Identifier.f 7 cls tag c d ks = some (identT cls tag c) := by
  have hj : spec_Identifier.j0 7 (cb cls c) cls tag c d ks = some (identT cls tag c) := by
    show (if tag < 31 then (some (([Go.bits .or .u8 (cb cls c) (tag % 256)] : List Int))) else (spec_Identifier.l0 6 (cb cls c) (([(Go.bits .and .i64 tag 127) % 256] : List Int)) (tag / 128))) = _
    unfold identT
    by_cases ht : tag < 31
    · rw [if_pos ht, if_pos ht, show tag % 256 = tag by omega, or_cb cls c tag h0 h1 t0 (by omega)]
    · rw [if_neg ht, if_neg ht]
      obtain ⟨t, rfl⟩ : ∃ t : Nat, tag = t := ⟨tag.toNat, by omega⟩
      have hr := spec_loop cls c h0 h1 t (by omega) 5 1 rfl (Nat.le_refl _) (by
        rw [ng_pos (show t ≠ 0 by omega), Nat.pow_one])
      rw [Int.toNat_natCast, ← hr, and_low64 _ (by omega)]
      congr 1
      show [((t % 128 : Nat) : Int) % 256] = [(t : Int) % 128]
      congr 1
      omega
  unfold spec_Identifier.f
  have hw : wrap64 (cls * 64) % 256 = cls * 64 := by unfold wrap64; omega
  rw [hw]
  cases c with
  | true =>
    rw [if_pos rfl]
    have e := or_b ⟨cls.toNat, by omega⟩
    simp only [Int.toNat_of_nonneg h0] at e
    rw [e]
    exact hj
  | false =>
    rw [if_neg (by decide)]
    have : cb cls false = cls * 64 := by simp [cb]
    rw [this] at hj
    exact hj
end Go.Proofs.YtbmcpjkhnhbjdaaDoor.Ident

namespace Go.Proofs.YtbmcpjkhnhbjdaaDoor.Tree
open Go.RowKit Go.Proofs.YtbmcpjkhnhbjdaaDoorW.PrintWords Go.Proofs.YtbmcpjkhnhbjdaaDoor.PFnEncode Go.Proofs.YtbmcpjkhnhbjdaaDoor.Within Go.Proofs.YtbmcpjkhnhbjdaaDoor.Num Go.Proofs.YtbmcpjkhnhbjdaaDoor.Ident
set_option linter.unusedVariables false
set_option linter.unusedSimpArgs false

mutual
/-- the bytes of a packet -/
def bytesT : S33 → List Int
  | ⟨a, b, c, d, l⟩ => identT a b c ++ lenBytes (d ++ bytesL l).length ++ (d ++ bytesL l)
def bytesL : List S33 → List Int
  | [] => []
  | x :: xs => bytesT x ++ bytesL xs
end

theorem len_le_tsB : ∀ l : List S33, l.length ≤ tsizeL l
  | [] => Nat.le_refl _
  | x :: xs => by
    have := len_le_tsB xs
    rw [tsizeL, List.length_cons]
    have h : 1 ≤ tsize x := by obtain ⟨a, b, c, d, l⟩ := x; rw [tsize]; omega
    omega

theorem rd_midB (pre : List S33) (x : S33) (xs : List S33) : rd_T33 (pre ++ x :: xs) (pre.length : Int) = x := by
  rw [rd_T33, Int.toNat_natCast, List.getD_eq_getElem?_getD, List.getElem?_append_right (Nat.le_refl _), Nat.sub_self]
  rfl

theorem bytesL_append (l m : List S33) : bytesL (l ++ m) = bytesL l ++ bytesL m := by
  induction l with
  | nil => simp [bytesL]
  | cons x xs ih => rw [List.cons_append, bytesL, bytesL, ih, List.append_assoc]

theorem identT_le (a b : Int) (c : Bool) (h0 : 0 ≤ b) (h : b < 268435456) : (identT a b c).length ≤ 5 := by
  unfold identT
  split
  · simp
  · have := ng_le 4 b.toNat (by omega)
    simp [low_length]
    exact this

mutual
theorem bytesT_le : ∀ x : S33, good x = true → tsize x < 72057594037927936 → (bytesT x).length ≤ 14 * tsize x
  | ⟨a, b, c, d, l⟩, hg, h => by
    rw [good] at hg
    simp only [Bool.and_eq_true, decide_eq_true_eq] at hg
    rw [tsize] at h ⊢
    have h1 := bytesL_le l hg.2 (by omega)
    have h2 := identT_le a b c hg.1.1.1.2 hg.1.1.2
    rw [bytesT]
    have h3 := lenBytes_le (d ++ bytesL l).length (by simp; omega)
    simp only [List.length_append] at h3 ⊢
    omega
theorem bytesL_le : ∀ l : List S33, goodL l = true → tsizeL l < 72057594037927936 → (bytesL l).length ≤ 14 * tsizeL l
  | [], _, _ => by simp [bytesL]
  | x :: xs, hg, h => by
    rw [goodL, Bool.and_eq_true] at hg
    rw [tsizeL] at h ⊢
    have h1 := bytesT_le x hg.1 (by omega)
    have h2 := bytesL_le xs hg.2 (by omega)
    rw [bytesL, List.length_append]
    omega
end

theorem or_len (n : Nat) (h : n ≤ 8) : Go.bits .or .u8 128 ((n : Int) % 256) = 128 + (n : Int) := by
  have := or128 ⟨n, by omega⟩
  rw [show (n : Int) % 256 = (n : Int) by omega]
  exact this

def ndz (n : Nat) : Nat := if n = 0 then 0 else nd n

theorem len_loop : ∀ (m n : Nat) (acc : List Int), n < 256 ^ m → acc.length + m ≤ 8 →
    spec_Length.l0 (m + 1) (n : Int) acc = some ((128 + ((acc.length + ndz n : Nat) : Int)) :: (be n (ndz n) ++ acc)) := by
  intro m
  induction m with
  | zero =>
    intro n acc h ha
    obtain rfl : n = 0 := by simpa using h
    unfold spec_Length.l0
    rw [if_neg (by omega)]
    simp only [Option.bind_some]
    rw [if_pos (by simp; omega), or_len _ (by omega)]
    simp [ndz, be]
  | succ m ih =>
    intro n acc h ha
    unfold spec_Length.l0
    by_cases hz : n = 0
    · subst hz
      rw [if_neg (by omega)]
      simp only [Option.bind_some]
      rw [if_pos (by simp; omega), or_len _ (by omega)]
      simp [ndz, be]
    · rw [if_pos (by omega)]
      simp only [Option.bind_some]
      rw [if_pos (by simp; omega)]
      have hr := ih (n / 256) ([(n : Int) % 256] ++ acc) (by rw [Nat.div_lt_iff_lt_mul (by omega)]; rw [Nat.pow_succ] at h; exact h) (by simp; omega)
      rw [show (n : Int) / 256 = ((n / 256 : Nat) : Int) by omega, hr]
      have hd : ndz n = ndz (n / 256) + 1 := by
        unfold ndz
        by_cases hs : n < 256
        · rw [if_neg hz, nd_small hs, if_pos (by omega)]
        · rw [if_neg hz, nd_great hs, if_neg (by omega)]
      rw [hd, be_snoc]
      congr 2
      · simp only [List.length_append, List.length_singleton]
        omega
      · simp

theorem len_spec (n : Nat) (h : n < 256 ^ 7) : spec_Length.f 8 (n : Int) = some (lenBytes n) := by
  unfold spec_Length.f lenBytes
  by_cases hs : n < 128
  · rw [if_pos (by omega), if_pos hs, show (n : Int) % 256 = (n : Int) by omega]
  · rw [if_neg (by omega), if_neg hs, len_loop 7 n [] h (by simp)]
    simp [ndz, show n ≠ 0 by omega]

mutual
theorem bytes_ex : ∀ x : S33, good x = true → tsize x < 1099511627776 → ∃ k, spec_Bytes.f k x.f0 x.f1 x.f2 x.f3 x.f4 = some (bytesT x)
  | ⟨a, b, c, d, l⟩, hg, h => by
    have hg' := hg
    rw [good] at hg'
    simp only [Bool.and_eq_true, decide_eq_true_eq] at hg'
    have ht := h
    rw [tsize] at ht
    obtain ⟨k, hk⟩ := bytesL_ex l d [] a b c d hg'.2 hg'.1.1.1.1.1 hg'.1.1.1.1.2 hg'.1.1.1.2 hg'.1.1.2 (by have := len_le_tsB l; simp; omega) (by omega)
    refine ⟨k + 1, ?_⟩
    rw [spec_Bytes.f]
    simp only [Option.bind_some]
    rw [if_pos (by simp; omega)]
    rw [bytesT]
    simpa using hk
theorem bytesL_ex : ∀ (l : List S33) (acc : List Int) (pre : List S33) (a b : Int) (c : Bool) (d : List Int), goodL l = true → 0 ≤ a → a ≤ 3 → 0 ≤ b → b < 268435456 → pre.length + l.length < 4611686018427387904 → acc.length + 14 * tsizeL l < 15393162788864 →
    ∃ k, spec_Bytes.l0 k acc (pre ++ l) ((pre ++ l).length : Int) (pre.length : Int) a b c d (pre ++ l) = some (identT a b c ++ lenBytes (acc ++ bytesL l).length ++ (acc ++ bytesL l))
  | [], acc, pre, a, b, c, d, hg, a0, a1, b0, b1, h1, h2 => by
    refine ⟨9, ?_⟩
    rw [spec_Bytes.l0, if_neg (by simp)]
    rw [at_rounds (fun k => spec_Identifier.mono a b c d (pre ++ []) k) (show 7 ≤ 8 by omega) (spec_ident a b c d (pre ++ []) a0 a1 b0 b1), len_spec acc.length (by simp [tsizeL] at h2; simp; omega)]
    have hi := identT_le a b c b0 b1
    have hl := lenBytes_le acc.length (by simp [tsizeL] at h2; simp; omega)
    simp only [Option.bind_some, bytesL, List.append_nil]
    rw [if_pos (by omega), if_pos (by simp [tsizeL] at h2; simp; omega)]
  | x :: xs, acc, pre, a, b, c, d, hg, a0, a1, b0, b1, h1, h2 => by
    rw [tsizeL] at h2
    rw [List.length_cons] at h1
    rw [goodL, Bool.and_eq_true] at hg
    have hx := bytesT_le x hg.1 (by omega)
    obtain ⟨k1, e1⟩ := bytes_ex x hg.1 (by omega)
    obtain ⟨k2, e2⟩ := bytesL_ex xs (acc ++ bytesT x) (pre ++ [x]) a b c d hg.2 a0 a1 b0 b1 (by simp; omega) (by simp; omega)
    have e1' := at_rounds (fun k => spec_Bytes.mono x.f0 x.f1 x.f2 x.f3 x.f4 k) (Nat.le_max_left k1 k2) e1
    have e2' := at_rounds (fun k => (spec_Bytes.mono_l k).2 _ _ _ _ _ _ _ _ _) (Nat.le_max_right k1 k2) e2
    refine ⟨max k1 k2 + 1, ?_⟩
    rw [spec_Bytes.l0, if_pos (by simp; omega), if_pos (by omega), if_pos (by simp; omega), rd_midB, e1']
    simp only [Option.bind_some]
    rw [if_pos (by omega)]
    have ew : wrap64 ((pre.length : Int) + 1) = (((pre ++ [x]).length : Nat) : Int) := by
      unfold wrap64
      simp
      omega
    rw [ew, bytesL]
    simpa using e2'
end
end Go.Proofs.YtbmcpjkhnhbjdaaDoor.Tree

namespace Go.Proofs.YtbmcpjkhnhbjdaaDoor.Ber
open Go.RowKit Go.Proofs.YtbmcpjkhnhbjdaaDoorW.PrintWords Go.Proofs.YtbmcpjkhnhbjdaaDoor.PFnEncode Go.Proofs.YtbmcpjkhnhbjdaaDoorW.PrintLast Go.Proofs.YtbmcpjkhnhbjdaaDoor.Tree Go.Proofs.YtbmcpjkhnhbjdaaDoor.Buf Go.Proofs.YtbmcpjkhnhbjdaaDoor.Pk Go.Proofs.YtbmcpjkhnhbjdaaDoor.Within Go.Proofs.YtbmcpjkhnhbjdaaDoor.Num
set_option linter.unusedVariables false
set_option linter.unusedSimpArgs false

/-- the tagged texts that are not empty -/
def kP : List ByteArray → Nat → List S33
  | [], _ => []
  | s :: r, i => (if s.toList.isEmpty then [] else [tX i s]) ++ kP r (i + 1)
theorem kP_snoc : ∀ (l : List ByteArray) (s : ByteArray) (i : Nat), kP (l ++ [s]) i = kP l i ++ (if s.toList.isEmpty then [] else [tX ((i + l.length : Nat) : Int) s])
  | [], s, i => by simp [kP]
  | x :: l, s, i => by
    rw [List.cons_append, kP, kP, kP_snoc l s (i + 1), List.append_assoc, List.length_cons, show i + 1 + l.length = i + (l.length + 1) by omega]
theorem kP_len : ∀ (l : List ByteArray) (i : Nat), (kP l i).length ≤ l.length
  | [], i => by simp [kP]
  | x :: l, i => by
    have := kP_len l (i + 1)
    rw [kP, List.length_append, List.length_cons]
    split <;> simp <;> omega
theorem kP_good : ∀ (l : List ByteArray) (i : Nat), i + l.length < 1000 → goodL (kP l i) = true
  | [], i, _ => by simp [kP, goodL]
  | x :: l, i, h => by
    rw [List.length_cons] at h
    rw [kP, goodL_append, kP_good l (i + 1) (by omega), Bool.and_true]
    split
    · rfl
    · simp [goodL, tX, good]
      omega
theorem kP_size : ∀ (l : List ByteArray) (i : Nat), (∀ s, s ∈ l → s.size ≤ 200) → tsizeL (kP l i) ≤ l.length * 201
  | [], i, _ => by simp [kP, tsizeL]
  | x :: l, i, h => by
    have h1 := kP_size l (i + 1) (fun s hs => h s (List.mem_cons_of_mem _ hs))
    have h2 := h x (by simp)
    rw [kP, tsizeL_append, List.length_cons]
    split
    · simp [tsizeL]; omega
    · simp only [tsizeL, tX, tsize, bytesOf_length]; omega
/-- the value's text -/
def vP (l : List ByteArray) : ByteArray := strOfNums (bytesT (tL (kP l 0)))
theorem strOf_len (l : List Int) : (strOfNums l).size = l.length := by
  simp [strOfNums, ByteArray.size]
theorem vP_size (l : List ByteArray) (hl : l.length ≤ 3) (h : ∀ s, s ∈ l → s.size ≤ 200) : (vP l).size ≤ 1000000 := by
  rw [vP, strOf_len]
  have h1 := kP_size l 0 h
  have h2 := bytesT_le (tL (kP l 0)) (by simp [tL, good, kP_good l 0 (by omega)]) (by simp only [tL, tsize, List.length_nil]; omega)
  simp only [tL, tsize, List.length_nil] at h2
  have : tsizeL (kP l 0) ≤ 603 := by omega
  show (bytesT ⟨0, 16, true, [], kP l 0⟩).length ≤ 1000000
  omega
theorem bytes_at (l : List ByteArray) (hl : l.length ≤ 3) (h : ∀ s, s ∈ l → s.size ≤ 200) (A : Option Addr) (c : Nat) (w : World) (hC : k33.C w A (kP l 0).length (kP l 0)) (hc : (kP l 0).length ≤ c) :
    Calls Tryd.prog 64 #[.agg #[.int .i64 0, .int .i64 16, .bool true, .slice none 0 0, .slice A (kP l 0).length c]] w fun e w' => ∃ v, e = .returned v ∧ Kd.R (Kd.int .u8) 5 w' w.heap.size (fun _ => True) v (bytesT (tL (kP l 0))) ∧ Below w.heap.size w w' := by
  have h1 := kP_size l 0 h
  obtain ⟨k, hk⟩ := bytes_ex (tL (kP l 0)) (by simp [tL, good, kP_good l 0 (by omega)]) (by simp only [tL, tsize, List.length_nil]; omega)
  exact spec_Bytes.calls k 0 16 true none 0 [] A c (kP l 0) _ w (Kd.C_nil _ _) (Nat.le_refl _) hC hc hk

set_option maxHeartbeats 3200000 in
set_option maxRecDepth 100000 in
theorem sPass_nw (u o f : ByteArray) (w : World) (hu : u.size ≤ 200) (ho : o.size ≤ 200) (hf : f.size ≤ 200) :
    Calls Tryd.prog 28 #[.string u, .string o, .string f] w (Nw w.heap.size w (tOp 23 [tX 0 ⟨#[49, 46, 51, 46, 54, 46, 49, 46, 52, 46, 49, 46, 52, 50, 48, 51, 46, 49, 46, 49, 49, 46, 49]⟩, tX 1 (vP [u, o, f])])) := by
  have hsz : ∀ s, s ∈ [u, o, f] → s.size ≤ 200 := by
    intro s hs
    simp only [List.mem_cons, List.not_mem_nil, or_false] at hs
    rcases hs with rfl | rfl | rfl <;> assumption
  obtain ⟨l, hl⟩ : ∃ l : List ByteArray, l = [u, o, f] := ⟨_, rfl⟩
  have hll : l.length = 3 := by rw [hl]; rfl
  rw [← hl] at hsz
  have HLL := Lib.hid hll
  have HOL : Hid (∀ s, s ∈ l → ∀ W, Calls Tryd.prog 47 #[.string s] W (Nw W.heap.size W (tO s))) := Lib.hid (fun s hs W => octets_nw s W (by have := hsz s hs; omega))
  have HBY : Hid (∀ (A : Option Addr) (c : Nat) (w : World), k33.C w A (kP l 0).length (kP l 0) → (kP l 0).length ≤ c → Calls Tryd.prog 64 #[.agg #[.int .i64 0, .int .i64 16, .bool true, .slice none 0 0, .slice A (kP l 0).length c]] w fun e w' => ∃ v, e = .returned v ∧ Kd.R (Kd.int .u8) 5 w' w.heap.size (fun _ => True) v (bytesT (tL (kP l 0))) ∧ Below w.heap.size w w') := Lib.hid (fun A c w h1 h2 => bytes_at l (by omega) hsz A c w h1 h2)
  have HEX : Hid (∀ (W V : World), V = W.alloc (.cells #[.string (vP l)] 9) → Calls Tryd.prog 27 #[.string ⟨#[49, 46, 51, 46, 54, 46, 49, 46, 52, 46, 49, 46, 52, 50, 48, 51, 46, 49, 46, 49, 49, 46, 49]⟩, .slice (some ⟨W.heap.size, 0, none⟩) 1 1] V (Nw W.heap.size W (tOp 23 [tX 0 ⟨#[49, 46, 51, 46, 54, 46, 49, 46, 52, 46, 49, 46, 52, 50, 48, 51, 46, 49, 46, 49, 49, 46, 49]⟩, tX 1 (vP l)]))) := Lib.hid (fun W V hV => by
    have hb : V.heap[W.heap.size]? = some (.cells #[.string (vP l)] 9 (0, 0)) := by rw [hV]; exact blk_new _ _
    have hB : Below W.heap.size W V := by rw [hV]; exact below_alloc (Below.refl _ _) _
    refine (sExt_nw ⟨#[49, 46, 51, 46, 54, 46, 49, 46, 52, 46, 49, 46, 52, 50, 48, 51, 46, 49, 46, 49, 49, 46, 49]⟩ [vP l] (some ⟨W.heap.size, 0, none⟩) 1 V (strs_block hb rfl (by simp)) (by decide) (fun s hs => by rw [List.mem_singleton.1 hs]; exact vP_size l (by omega) hsz) (by simp)).mono ?_
    rintro e w' h
    obtain ⟨A3, c3, A4, c4, he, hl, hb'⟩ := h.open
    obtain ⟨l3, h3, l4, h4⟩ := hl.low hB.size
    exact ⟨A3, c3, A4, c4, he, l3, h3, l4, h4, hB.trans (hb'.mono hB.size)⟩)
  have hres : [u, o, f] = l := hl.symm
  rw [hres]
  obtain ⟨y, hy⟩ : ∃ y, y = tOp 23 [tX 0 ⟨#[49, 46, 51, 46, 54, 46, 49, 46, 52, 46, 49, 46, 52, 50, 48, 51, 46, 49, 46, 49, 49, 46, 49]⟩, tX 1 (vP l)] := ⟨_, rfl⟩
  rw [← hy] at HEX ⊢
  obtain ⟨vs, hvs⟩ : ∃ vs, vs = vP l := ⟨_, rfl⟩
  rw [← hvs] at HEX
  have HVS := Lib.hid hvs
  obtain ⟨W0, hW0⟩ : ∃ W0, W0 = w.alloc (.cells #[.int .i64 0, .int .i64 0, .bool false, .slice none 0 0, .slice none 0 0] 33) := ⟨_, rfl⟩
  have hb0 : Below w.heap.size w W0 := by rw [hW0]; exact below_alloc (Below.refl _ _) _
  have hs0 : W0.heap.size = w.heap.size + 1 := by rw [hW0]; simp
  have HB0 := Lib.hid hb0
  have HS0 := Lib.hid hs0
  have HZ0 : Hid (W0.heap[w.heap.size]? = some (.cells #[.int .i64 0, .int .i64 0, .bool false, .slice none 0 0, .slice none 0 0] 33 (0, 0))) := Lib.hid (by rw [hW0]; exact blk_new _ _)
  have HW0 := Lib.hid hW0
  have HLS := Lib.hid hl
  clear hy hvs hu ho hf hsz hll hres hb0 hs0 hW0 hl
  go_enter Tryd.func28, Tryd.ntmps28
  go_upto_region 2 with (first
    | (go_at_call 48
       rw [← HW0.out]
       with_reducible refine (list_ex none 0 0 W0).mono ?_
       rintro e W1 ⟨rfl, hB1⟩
       have HZ1 := Lib.hid (blk_below HZ0.out hB1)
       have HB1 := Lib.hid hB1
       clear hB1))
  obtain ⟨W2, hW2⟩ : ∃ W2, W2 = W1.alloc (.cells #[.int .i64 0, .int .i64 16, .bool true, .slice none 0 0, .slice none 0 0] 33) := ⟨_, rfl⟩
  rw [← hW2]
  have hb2 : Below W1.heap.size W1 W2 := by rw [hW2]; exact below_alloc (Below.refl _ _) _
  have HI2 : Hid (AccL (w.heap.size + 1) W1.heap.size W2 0 16 true (.slice none 0 0) []) := Lib.hid ⟨by rw [hW2]; exact blk_new _ _, Kd.N_nil _ _ _ _ _, by have := HB1.out.size; have := HS0.out; omega⟩
  have HB2 : Hid (Below w.heap.size w W2) := Lib.hid ((HB0.out.trans (HB1.out.mono HB0.out.size)).trans (hb2.mono (by have := HB1.out.size; have := HB0.out.size; omega)))
  have HZ2 := Lib.hid (blk_below HZ1.out hb2)
  clear hW2 hb2
  obtain ⟨g, hg⟩ : ∃ g, g = W1.heap.size := ⟨_, rfl⟩
  rw [← hg] at HI2 ⊢
  clear hg
  go_upto_region 3 with fail
  obtain ⟨W4, hW4⟩ : ∃ W4, W4 = W2.alloc (.cells #[.string u, .string o, .string f] 9) := ⟨_, rfl⟩
  rw [← hW4]
  have hb4 : Below W2.heap.size W2 W4 := by rw [hW4]; exact below_alloc (Below.refl _ _) _
  have HI4 := Lib.hid (HI2.out.below hb4)
  have HB4 := Lib.hid (HB2.out.trans (hb4.mono HB2.out.size))
  have HZ4 := Lib.hid (blk_below HZ2.out hb4)
  have HD4 : Hid (W4.heap[W2.heap.size]? = some (.cells #[.string u, .string o, .string f] 9 (0, 0))) := Lib.hid (by rw [hW4]; exact blk_new _ _)
  have HBG0 : Hid (g < W2.heap.size) := Lib.hid HI2.out.lt
  clear hW4 hb4
  obtain ⟨b, hb⟩ : ∃ b, b = W2.heap.size := ⟨_, rfl⟩
  rw [← hb] at HD4 HBG0 ⊢
  have HBG : Hid (b ≠ g) := Lib.hid (by have := HBG0.out; omega)
  clear hb
  go_wp2
  go_loopw [16] (fun i wr => ∃ k : Nat, i = .int .i64 k ∧ k ≤ 3 ∧ Hid (∃ v, AccL (w.heap.size + 1) g wr 0 16 true v (kP (l.take k) 0)) ∧ Hid (Below (w.heap.size + 1) W4 wr) ∧ Hid (wr.heap[b]? = some (.cells #[.string u, .string o, .string f] 9 (0, 0)))) (fun i _ => 3 - (intOf i).toNat)
  case atStart => exact ⟨0, rfl, Nat.zero_le _, Lib.hid ⟨_, HI4.out⟩, Lib.hid (Below.refl _ _), HD4⟩
  case round =>
    obtain ⟨k, rfl, hk, HI3, HBr, HDr⟩ := hrel
    obtain ⟨v, HI9⟩ := HI3.out
    have HI := Lib.hid HI9
    clear HI3 HI9
    have HBW : Hid (Below w.heap.size w wr) := Lib.hid (HB4.out.trans (HBr.out.mono (Nat.le_succ _)))
    by_cases hlt : k < 3
    · have hkl : k < l.length := by rw [HLL.out]; exact hlt
      have hrow : Kd.string.C wr (some ⟨b, 0, none⟩) l.length l := strs_block HDr.out (by rw [HLS.out]; rfl) (by rw [HLL.out]; decide)
      obtain ⟨ad2, had2, hcell2⟩ := str_atS hrow hkl
      injection had2 with had2
      subst had2
      have HNB : Hid (some b ≠ v.ownBlock) := Lib.hid (Kd.N_ne HI.out.row HDr.out (by decide))
      have hstep := kP_snoc (l.take k) l[k] 0
      rw [← List.take_succ_eq_append_getElem hkl, List.length_take, Nat.min_eq_left (Nat.le_of_lt hkl), Nat.zero_add] at hstep
      have HOS := Lib.hid (HOL.out l[k] (List.getElem_mem hkl))
      have HLE : Hid (((kP (l.take k) 0).length + 1) * 72 ≤ 140737488355328) := Lib.hid (by have := kP_len (l.take k) 0; rw [List.length_take] at this; omega)
      obtain ⟨s, hs⟩ : ∃ s, s = l[k] := ⟨_, rfl⟩
      obtain ⟨acc, hacc⟩ : ∃ acc, acc = kP (l.take k) 0 := ⟨_, rfl⟩
      rw [← hs] at hcell2 hstep HOS
      rw [← hacc] at hstep HLE HI
      have HST := Lib.hid hstep
      clear hs hacc hstep hrow hkl
      have hcell3 : wr.cell? ⟨b, k, none⟩ = some (.string s) := by
        have e : Addr.add ⟨b, 0, none⟩ k = ⟨b, k, none⟩ := by
          unfold Addr.add
          simp
          intros
          omega
        rw [← e]
        exact hcell2
      cases hem : s.toList.isEmpty with
      | true =>
        go_wp2
        exact ⟨⟨k + 1, by first | rfl | go_num, hlt, Lib.hid ⟨_, by rw [HST.out, hem]; simpa using HI.out⟩, HBr, HDr⟩, by simp [intOf]; omega⟩
      | false =>
        have HTG : Hid (∀ (A3 : Option Addr) (c3 : Nat) (A4 : Option Addr) (c4 : Nat) (b : Nat) (W : World), Lies b W (tO s) A3 c3 A4 c4 → b ≤ W.heap.size → Calls Tryd.prog 51 #[.int .i64 2, .int .i64 (k : Int), .agg #[.int .i64 (tO s).f0, .int .i64 (tO s).f1, .bool (tO s).f2, .slice A3 (tO s).f3.length c3, .slice A4 (tO s).f4.length c4]] W (Nw b W (tX k s))) := Lib.hid (fun A3 c3 A4 c4 b W h hb => tagged_nw 2 k (tO s) A3 c3 A4 c4 W h.1 h.2.1 h.2.2.1 h.2.2.2 hb)
        have HST2 : Hid (kP (l.take (k + 1)) 0 = acc ++ [tX k s]) := Lib.hid (by rw [HST.out, hem]; rfl)
        obtain ⟨xo, hxo⟩ : ∃ x, x = tO s := ⟨_, rfl⟩
        obtain ⟨p, hp⟩ : ∃ p, p = tX k s := ⟨_, rfl⟩
        rw [← hxo] at HTG HOS
        rw [← hp] at HST2 HTG
        clear hxo hp
        go_wp2_with fail
        have hd : Below wr.heap.size wr wr.drew := (Below.refl _ _).drew
        have HI5 := Lib.hid (HI.out.below hd)
        have HB5 : Hid (Below (w.heap.size + 1) W4 wr.drew) := Lib.hid (HBr.out.trans (hd.mono HI.out.base))
        have HD5 := Lib.hid (blk_below HDr.out hd)
        have s4 : wr.drew.cell? ⟨g, 4, none⟩ = some v := blk_cell HI5.out.hg 4
        clear hcell2 hcell3 hd
        refine start_ (n := 10) (S := fun w' => w'.cell? ⟨g, 4, none⟩ = some v) (ds := [9]) #[false, false, false, false, false, false, false, false, false, false] (by kernel_rfl) rfl rfl (s4) (fun hHeld => ?_)
        refine pure_ (i := 0) (N := some 23) (v := ?_) (a' := ?_) #[true, false, false, false, false, false, false, false, false, false] rfl rfl (by kernel_rfl) (fun _ _ _ h => h) (Or.inl ⟨by rfl, ?_⟩) ?_ ?_
        rotate_left
        · intro w'
          go_simp
          with_reducible rfl
        rotate_left
        · simp only [Act.put, List.setIfInBounds_toArray, List.set_cons_zero, List.set_cons_succ, i64_w, i32_w]
          rfl
        refine pure_ (i := 2) (N := some 25) (v := ?_) (a' := ?_) #[true, false, true, false, false, false, false, false, false, false] rfl rfl (by kernel_rfl) (fun _ _ _ h => h) (Or.inl ⟨by rfl, ?_⟩) ?_ ?_
        rotate_left
        · intro w'
          go_simp
          with_reducible rfl
        rotate_left
        · simp only [Act.put, List.setIfInBounds_toArray, List.set_cons_zero, List.set_cons_succ, i64_w, i32_w]
          rfl
        refine pure_ (i := 3) (N := some 26) (v := ?_) (a' := ?_) #[true, false, true, true, false, false, false, false, false, false] rfl rfl (by kernel_rfl) (fun _ _ _ h => h) (Or.inl ⟨by rfl, ?_⟩) ?_ ?_
        rotate_left
        · intro w'
          go_simp
          with_reducible rfl
        rotate_left
        · simp only [Act.put, List.setIfInBounds_toArray, List.set_cons_zero, List.set_cons_succ, i64_w, i32_w]
          rfl
        refine take_ (i := 1) (N := some 24) (v := ?_) (a' := ?_) #[true, true, true, true, false, false, false, false, false, false] rfl rfl (by kernel_rfl) (fun _ _ _ h => h) (Or.inl ⟨by rfl, ?_⟩) hHeld ?_ ?_
        rotate_left
        · intro w' s0
          go_simp
          with_reducible rfl
        rotate_left
        · simp only [Act.put, List.setIfInBounds_toArray, List.set_cons_zero, List.set_cons_succ, i64_w, i32_w]
          rfl
        refine one_ (i := 4) (N := some 27) #[true, true, true, true, true, false, false, false, false, false] rfl rfl (by kernel_rfl) (by decide) (fun K hK => ?_)
        refine goes_ Tryd.func47 (by kernel_rfl) rfl #[.string s] (by rfl) rfl rfl (by simp only [List.map_toArray, List.map_cons, List.map_nil]; rfl) ?_
        with_reducible refine (HOS.out wr.drew).mono ?_
        rintro e W6 h6
        obtain ⟨F3, f3, F4, f4, rfl, hl6, hB6⟩ := h6.open
        refine ⟨_, rfl, ?_⟩
        have HL6 := Lib.hid hl6
        have HI6 := Lib.hid (HI5.out.below hB6)
        have HB6 := Lib.hid hB6
        have HD6 := Lib.hid (blk_below HD5.out hB6)
        clear h6 hl6 hB6
        refine hK.out _ _ (blk_cell HI6.out.hg 4) (fun hHeld => ?_)
        clear hK K
        refine norm_ (a' := ?_) ?_ ?_
        rotate_left
        · show Act.put _ (some 27) _ = _
          simp only [Act.put, List.setIfInBounds_toArray, List.set_cons_zero, List.set_cons_succ, i64_w, i32_w]
          rfl
        refine one_ (i := 5) (N := some 28) #[true, true, true, true, true, true, false, false, false, false] rfl rfl (by kernel_rfl) (by decide) (fun K hK => ?_)
        refine goes_ Tryd.func51 (by kernel_rfl) rfl #[.int .i64 2, .int .i64 (k : Int), .agg #[.int .i64 xo.f0, .int .i64 xo.f1, .bool xo.f2, .slice F3 xo.f3.length f3, .slice F4 xo.f4.length f4]] (by rfl) rfl rfl (by simp only [List.map_toArray, List.map_cons, List.map_nil]; rfl) ?_
        with_reducible refine (HTG.out F3 f3 F4 f4 wr.drew.heap.size W6 HL6.out HB6.out.size).mono ?_
        rintro e W7 h7
        obtain ⟨E3, q3, E4, q4, rfl, hl7, hB7⟩ := h7.open
        refine ⟨_, rfl, ?_⟩
        have HK7 := Lib.hid (AccL.kid hl7 HI5.out (Nat.le_refl _))
        have HI7 := Lib.hid (HI6.out.below hB7)
        have HB7 := Lib.hid (HB5.out.trans ((HB6.out.trans (hB7.mono HB6.out.size)).mono HI5.out.base))
        have HD7 := Lib.hid (blk_below HD6.out hB7)
        clear h7 hl7 hB7
        refine hK.out _ _ (blk_cell HI7.out.hg 4) (fun hHeld => ?_)
        clear hK K
        refine norm_ (a' := ?_) ?_ ?_
        rotate_left
        · show Act.put _ (some 28) _ = _
          simp only [Act.put, List.setIfInBounds_toArray, List.set_cons_zero, List.set_cons_succ, i64_w, i32_w]
          rfl
        refine one_ (i := 6) (N := some 29) #[true, true, true, true, true, true, true, false, false, false] rfl rfl (by kernel_rfl) (by decide) (fun K hK => ?_)
        refine value_ (w1 := ?_) (v := ?_) (by rfl) rfl ?_ ?_
        rotate_left 2
        · go_simp
          constructor
          · rfl
          · rfl
        refine hK.out _ _ (blk_cell (blk_alloc HI7.out.hg _) 4) (fun hHeld => ?_)
        clear hK K
        refine norm_ (a' := ?_) ?_ ?_
        rotate_left
        · show Act.put _ (some 29) _ = _
          simp only [Act.put, List.setIfInBounds_toArray, List.set_cons_zero, List.set_cons_succ, i64_w, i32_w]
          rfl
        refine one_ (i := 7) (N := some 30) #[true, true, true, true, true, true, true, true, false, false] rfl rfl (by kernel_rfl) (by decide) (fun K hK => ?_)
        refine Kd.N_append_step k33 (w0 := W7) (W := W7) (w.heap.size + 1) (by rfl) (.tmp 24) (.tmp 29) 31 33 (.agg #[.int .i64 0, .int .i64 0, .bool false, .slice none 0 0, .slice none 0 0]) 72 (by rfl) Tryd.underlying31 info_sp rfl (show 0 < 5 by decide) (by decide) v acc p _ (fun k => w.heap.size + 1 ≤ k ∧ k ≠ g) _ (by rfl) (by rfl) HK7.out (fun _ h => h) HI7.out.fresh HI7.out.row (Below.refl _ _) HI7.out.base HLE.out ?_
        intro v1 w1 hR hb hg hat
        have x0 : w1.cell? ⟨g, 4, none⟩ = some v := blk_cell (blk_grown HI7.out.hg hg HI7.out.ne) 4
        have xf : w1.frozen? ⟨g, 4, none⟩ = false := blk_frozen (blk_grown HI7.out.hg hg HI7.out.ne) 4
        obtain ⟨Aq, cq, hvq⟩ := Kd.N_slice hR
        have h8 := HI7.out.app hR hg
        have hb8 := HB7.out.trans (((hb.setCell (p := ⟨g, 4, none⟩) HI7.out.le v1)))
        obtain ⟨n, hn⟩ : ∃ n, n = (acc ++ [p]).length := ⟨_, rfl⟩
        rw [← hn] at hvq
        subst hvq
        have HI8 := Lib.hid h8
        have HB8 := Lib.hid hb8
        have HD8 := Lib.hid (blk_far (blk_grown HD7.out hg HNB.out) (p := ⟨g, 4, none⟩) HBG.out (.slice Aq n cq))
        clear hR hb hg hat hn h8 hb8
        refine hK.out _ _ (x0) (fun hHeld => ?_)
        clear hK K
        refine norm_ (a' := ?_) ?_ ?_
        rotate_left
        · show Act.put _ (some 30) _ = _
          simp only [Act.put, List.setIfInBounds_toArray, List.set_cons_zero, List.set_cons_succ, i64_w, i32_w]
          rfl
        refine pure_ (i := 8) (N := some 31) (v := ?_) (a' := ?_) #[true, true, true, true, true, true, true, true, true, false] rfl rfl (by kernel_rfl) (fun _ _ _ h => h) (Or.inl ⟨by rfl, ?_⟩) ?_ ?_
        rotate_left
        · intro w'
          go_simp
          with_reducible rfl
        rotate_left
        · simp only [Act.put, List.setIfInBounds_toArray, List.set_cons_zero, List.set_cons_succ, i64_w, i32_w]
          rfl
        refine last_ (i := 9) (N := none) #[true, true, true, true, true, true, true, true, true, true] rfl rfl (by kernel_rfl) (by decide) (fun K hK => ?_)
        refine skip_ (w1 := ?_) (by rfl) rfl ?_ ?_
        rotate_left
        · go_simp
          rfl
        refine hK.out _ _ ?_
        clear hK K
        refine done_ (by kernel_rfl) ?_
        go_wp2
        exact ⟨⟨k + 1, by first | rfl | go_num, hlt, Lib.hid ⟨_, by rw [HST2.out]; exact HI8.out⟩, HB8, HD8⟩, by simp [intOf]; omega⟩
    · obtain rfl : k = 3 := by omega
      rw [← HLL.out, List.take_length] at HI
      obtain ⟨Az, cz, hv, hlz⟩ := HI.out.lies
      subst hv
      have HLZ := Lib.hid hlz
      have HZR : Hid (wr.heap[w.heap.size]? = some (.cells #[.int .i64 0, .int .i64 0, .bool false, .slice none 0 0, .slice none 0 0] 33 (0, 0))) := Lib.hid ((HBr.out.block w.heap.size (Nat.lt_succ_self _)).trans HZ4.out)
      have s0 : wr.cell? ⟨g, 0, none⟩ = some (.int .i64 0) := blk_cell HI.out.hg 0
      have s1 : wr.cell? ⟨g, 1, none⟩ = some (.int .i64 16) := blk_cell HI.out.hg 1
      have s2 : wr.cell? ⟨g, 2, none⟩ = some (.bool true) := blk_cell HI.out.hg 2
      have s3 : wr.cell? ⟨g, 3, none⟩ = some (.slice none 0 0) := blk_cell HI.out.hg 3
      have s4 : wr.cell? ⟨g, 4, none⟩ = some (.slice Az (kP l 0).length cz) := blk_cell HI.out.hg 4
      clear hlz HOL
      obtain ⟨m, hm⟩ : ∃ m, m = kP l 0 := ⟨_, rfl⟩
      have HVM : Hid (strOfNums (bytesT (tL m)) = vs) := Lib.hid (by rw [HVS.out, hm]; rfl)
      rw [← hm] at HBY HLZ s4
      clear hm
      have HBZ : Hid (Calls Tryd.prog 64 #[.agg #[.int .i64 0, .int .i64 16, .bool true, .slice none 0 0, .slice Az m.length cz]] wr fun e w' => ∃ v, e = .returned v ∧ Kd.R (Kd.int .u8) 5 w' wr.heap.size (fun _ => True) v (bytesT (tL m)) ∧ Below wr.heap.size wr w') := Lib.hid (HBY.out Az cz wr (Kd.F_now HLZ.out.2.2.2) HLZ.out.2.2.1)
      go_wp2_with (first
        | (go_at_call 64
           with_reducible refine HBZ.out.mono ?_
           rintro e W5 ⟨v5, rfl, hR5, hB5⟩
           obtain ⟨A5, c5, rfl, l5, hC5⟩ := Kd.R_reads hR5
           have hcv : (convert 24 9 (.slice A5 (bytesT (tL m)).length c5)).run Tryd.prog W5 = .ok (.string vs) W5 := by
             rw [← HVM.out]
             exact Kd.C_string Tryd.underlying24 Tryd.underlying5 Tryd.underlying9 hC5
           have HZ5 := Lib.hid (blk_below HZR.out hB5)
           have HB5 := Lib.hid (HBW.out.trans (hB5.mono HBW.out.size))
           clear hR5 hB5 hC5 l5)
        | (go_at_call 27
           with_reducible refine (HEX.out W5 _ rfl).mono ?_
           rintro e W7 h7
           obtain ⟨Y3, y3, Y4, y4, rfl, hl7, hB7⟩ := h7.open
           have HL7 := Lib.hid (hl7.low (b' := w.heap.size + 1) (by have := blk_lt HZ5.out; omega))
           have HZ7 := Lib.hid (blk_below HZ5.out hB7)
           have HB7 := Lib.hid (HB5.out.trans (hB7.mono HB5.out.size))
           have k0 : W7.cell? ⟨w.heap.size, 0, none⟩ = some (.int .i64 0) := blk_cell HZ7.out 0
           have k1 : W7.cell? ⟨w.heap.size, 1, none⟩ = some (.int .i64 0) := blk_cell HZ7.out 1
           have k2 : W7.cell? ⟨w.heap.size, 2, none⟩ = some (.bool false) := blk_cell HZ7.out 2
           have k3 : W7.cell? ⟨w.heap.size, 3, none⟩ = some (.slice none 0 0) := blk_cell HZ7.out 3
           have k4 : W7.cell? ⟨w.heap.size, 4, none⟩ = some (.slice none 0 0) := blk_cell HZ7.out 4
           have kf0 := blk_frozen HZ7.out 0
           have kf1 := blk_frozen HZ7.out 1
           have kf2 := blk_frozen HZ7.out 2
           have kf3 := blk_frozen HZ7.out 3
           have kf4 := blk_frozen HZ7.out 4
           clear h7 hl7 hB7))
      obtain ⟨h5, hend⟩ := nw_end (b := w.heap.size) (B := w.heap.size + 1) (n := w.heap.size) (x := y) HB7.out (Nat.le_refl _) (fun k hk => by omega) (by omega) HZ7.out HL7.out.1 HL7.out.2.1 HL7.out.2.2.1 HL7.out.2.2.2 rfl
      try simp only [Exit.inBlock, Exit.then]
      exact bodyPost_ret (results_c rfl _ _ _ _ _ _ _ rfl h5 Tryd.underlying33 rfl size33) rfl hend
end Go.Proofs.YtbmcpjkhnhbjdaaDoor.Ber
