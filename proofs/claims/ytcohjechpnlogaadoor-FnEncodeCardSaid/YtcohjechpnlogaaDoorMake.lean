/- Writing into a packet's Data: the packet with more data, everything else as it was. -/
import Derived.Test.YtcohjechpnlogaaDoorEncode
import Derived.Test.YtcohjechpnlogaaDoorLen
namespace Go.Proofs.YtcohjechpnlogaaDoor.Ber
open Go.RowKit Go.Proofs.YtcohjechpnlogaaDoorW.PrintWords Go.Proofs.YtcohjechpnlogaaDoor.Buf Go.Proofs.YtcohjechpnlogaaDoor.Pk
set_option linter.unusedVariables false
set_option linter.unusedSimpArgs false

/-- A packet laid open. -/
structure Parts (w : World) (base : Nat) (ok : Nat → Prop) (b : Nat) (x : Pk) (db : Nat) (v bv cv : Value) : Prop where
  val : x.val.oneCell' = true
  okb : ok b
  leb : base ≤ b
  okd : ok db
  led : base ≤ db
  hb : w.heap[b]? = some (.cells (cellsOf x bv db cv) T (0, 0))
  hd : Hdr w db v
  rv : B8.R 5 w base ok v x.data
  rb : B8.R 5 w base (fun k => ok k ∧ some k ≠ v.ownBlock) bv x.bv
  rk : kPk.R TP w base (fun k => ok k ∧ k ≠ b ∧ k ≠ db ∧ some k ≠ v.ownBlock) cv x.kids

theorem parts_of {w : World} {base : Nat} {ok : Nat → Prop} {b : Nat} {x : Pk} (h : IsPk w base ok b x) : ∃ db v bv cv, Parts w base ok b x db v bv cv := by
  obtain ⟨hv, b', db, v, bv, cv, lr, e, ⟨a1, a2⟩, ⟨b1, b2⟩, h3, h4, h5, h6, h7⟩ := open_M h
  obtain rfl : b' = b := by simpa using e.symm
  exact ⟨db, v, bv, cv, hv, a1, a2, b1, b2, h3, ⟨lr, h4⟩, h5, h6, h7⟩

theorem Parts.pk {w : World} {base : Nat} {ok : Nat → Prop} {b : Nat} {x : Pk} {db : Nat} {v bv cv : Value} (h : Parts w base ok b x db v bv cv) : IsPk w base ok b x := by
  obtain ⟨lr, h4⟩ := h.hd
  exact mk_M ⟨h.val, b, db, v, bv, cv, lr, rfl, ⟨h.okb, h.leb⟩, ⟨h.okd, h.led⟩, h.hb, h4, h.rv, h.rb, h.rk⟩

section
variable {w w' : World} {base : Nat} {ok : Nat → Prop} {b : Nat} {x : Pk} {db : Nat} {v bv cv : Value}

theorem Parts.buf (h : Parts w base ok b x db v bv cv) : IsBuf w db v x.data := ⟨h.hd, own_weaken (int_own h.rv) (Nat.zero_le _)⟩
theorem Parts.dne (h : Parts w base ok b x db v bv cv) : b ≠ db := by
  rintro rfl
  obtain ⟨lr, h4⟩ := h.hd
  have := h.hb
  rw [h4] at this
  injection this with this
  injection this with _ this
  exact absurd this (by decide)
theorem Parts.bne (h : Parts w base ok b x db v bv cv) : v.ownBlock ≠ some b := by
  intro e
  obtain ⟨cells, hc⟩ := own_typed (int_own h.rv) b e
  have := h.hb
  rw [hc] at this
  injection this with this
  injection this with _ this
  exact absurd this (by decide)

/-- A row at another base: its block is at least so great. -/
theorem own_base_at {w : World} {base base' : Nat} {e : TypeId} {s n : Nat} {v : Value} {cs : List Value} (h : w.ownsRow base e s v n cs) (hb : ∀ k, v.ownBlock = some k → base' ≤ k) : w.ownsRow base' e s v n cs := by
  obtain ⟨h1, h2⟩ := h
  refine ⟨h1, ?_⟩
  rcases h2 with h2 | ⟨g, cap, cur, rfl, hg, r⟩
  · exact .inl h2
  · exact .inr ⟨g, cap, cur, rfl, hb g rfl, r⟩

theorem Parts.wrote {ys : List Int} {e0 e : Ending} (h : Parts w base ok b x db v bv cv) (hw : Wrote w db v (x.data ++ ys) e0 e w') (hbase : base ≤ w.heap.size) :
    e = e0 ∧ Only ok w w' ∧ ∃ v', Parts w' base (fun k => ok k ∨ w.heap.size ≤ k) b { x with data := x.data ++ ys } db v' bv cv := by
  obtain ⟨he, v', hbuf, hrow, hon⟩ := hw
  have hlt : b < w.heap.size := blk_lt h.hb
  have hkeep : ∀ k, k < w.heap.size → k ≠ db → some k ≠ v.ownBlock → w'.heap[k]? = w.heap[k]? := fun k hk h1 h2 => hon.block k hk (fun h3 => h3.elim h1 h2)
  have hokrow : ∀ k, v.ownBlock = some k → ok k := h.rv.1
  have hne : ∀ k, some k ≠ v.ownBlock → k < w.heap.size → some k ≠ v'.ownBlock := by
    intro k h1 h2
    rcases hrow with h3 | ⟨N, h3, h4⟩
    · rw [h3]; exact h1
    · rw [h3]
      intro h5
      injection h5 with h5
      omega
  have hdb : ∀ {k : Nat} {cs : Array Value}, w.heap[k]? = some (.cells cs 5 (0, 0)) → k ≠ db := by
    rintro k cs hc rfl
    obtain ⟨lr, h4⟩ := h.hd
    rw [hc] at h4
    injection h4 with h4
    injection h4 with _ h4
    exact absurd h4 (by decide)
  refine ⟨he, hon.mono ?_, v', h.val, Or.inl h.okb, h.leb, Or.inl h.okd, h.led, ?_, hbuf.1, ?_, ?_, ?_⟩
  · rintro i hi (rfl | h1)
    · exact h.okd
    · exact hokrow i h1.symm
  · exact (hkeep b hlt h.dne (Ne.symm h.bne)).trans h.hb
  · refine own_int (own_base_at hbuf.2 ?_) ?_
    · intro k hk
      rcases hrow with h3 | ⟨N, h3, h4⟩
      · exact own_base (int_own h.rv) k (h3 ▸ hk)
      · rw [h3] at hk; injection hk with hk; omega
    · intro k hk
      rcases hrow with h3 | ⟨N, h3, h4⟩
      · exact Or.inl (hokrow k (h3 ▸ hk))
      · rw [h3] at hk; injection hk with hk; exact Or.inr (by omega)
  · have r := Kd.R_bound h.rb
    refine Kd.R_mono (Kd.R_move r ?_) ?_
    · rintro k ⟨⟨k1, k2⟩, k3, k4, q, hq, cells, hc⟩
      refine hkeep k k4 (hdb (k := k) (cs := cells) ?_) k2
      rcases List.mem_cons.1 hq with rfl | hq
      · exact hc
      · exact absurd hq (by simp [Kd.int, Kd.scalar])
    · rintro k ⟨⟨k1, k2⟩, k3, k4, _⟩
      exact ⟨Or.inl k1, hne k k2 k4⟩
  · have r := Kd.R_bound h.rk
    refine Kd.R_mono (Kd.R_move r ?_) ?_
    · rintro k ⟨⟨k1, k2, k3, k4⟩, k5, k6, _⟩
      exact hkeep k k6 k3 k4
    · rintro k ⟨⟨k1, k2, k3, k4⟩, k5, k6, _⟩
      exact ⟨Or.inl k1, k2, k3, hne k k4 k6⟩

/-- Another value in the interface. -/
theorem Parts.setVal (h : Parts w base ok b x db v bv cv) (u : Value) (hu : u.oneCell' = true) : Parts (w.setCell ⟨b, 3, none⟩ u) base ok b { x with val := u } db v bv cv ∧ Only ok w (w.setCell ⟨b, 3, none⟩ u) := by
  have hk : ∀ k, k ≠ b → (w.setCell ⟨b, 3, none⟩ u).heap[k]? = w.heap[k]? := fun k hk => Below.heap_setCell w ⟨b, 3, none⟩ u k hk
  have hrow : ∀ {k : Nat} {cs : Array Value}, w.heap[k]? = some (.cells cs 5 (0, 0)) → k ≠ b := by
    rintro k cs hc rfl
    have := h.hb
    rw [hc] at this
    injection this with this
    injection this with _ this
    exact absurd this (by decide)
  refine ⟨⟨hu, h.okb, h.leb, h.okd, h.led, Lib.heap_setCell_same (i := 3) h.hb u, ?_, ?_, ?_, ?_⟩, (Only.refl ok w).setCell (a := ⟨b, 3, none⟩) (fun _ => h.okb) u⟩
  · obtain ⟨lr, h4⟩ := h.hd
    exact ⟨lr, (hk db (Ne.symm h.dne)).trans h4⟩
  · refine Kd.R_mono (Kd.R_move (Kd.R_bound h.rv) ?_) (fun k hk => hk.1)
    rintro k ⟨k1, k2, k3, q, hq, cells, hc⟩
    refine hk k (hrow (cs := cells) ?_)
    rcases List.mem_cons.1 hq with rfl | hq
    · exact hc
    · exact absurd hq (by simp [Kd.int, Kd.scalar])
  · refine Kd.R_mono (Kd.R_move (Kd.R_bound h.rb) ?_) (fun k hk => hk.1)
    rintro k ⟨k1, k2, k3, q, hq, cells, hc⟩
    refine hk k (hrow (cs := cells) ?_)
    rcases List.mem_cons.1 hq with rfl | hq
    · exact hc
    · exact absurd hq (by simp [Kd.int, Kd.scalar])
  · exact Kd.R_move h.rk (fun k hk' => hk k hk'.2.1)

theorem Parts.below (h : Parts w base ok b x db v bv cv) (hb : Below w.heap.size w w') : Parts w' base ok b x db v bv cv := by
  obtain ⟨lr, h4⟩ := h.hd
  exact ⟨h.val, h.okb, h.leb, h.okd, h.led, blk_below h.hb hb, ⟨lr, blk_below h4 hb⟩, Kd.R_below h.rv hb, Kd.R_below h.rb hb, Kd.R_below h.rk hb⟩

theorem Parts.cell (h : Parts w base ok b x db v bv cv) (i : Nat) : w.cell? ⟨b, i, none⟩ = (cellsOf x bv db cv)[i]? := Lib.cell_of_heap h.hb i
theorem Parts.frozen (h : Parts w base ok b x db v bv cv) (i : Nat) : w.frozen? ⟨b, i, none⟩ = false := Lib.frozen_of_heap h.hb i
end

theorem made_intro {w w' : World} {ok : Nat → Prop} {b : Nat} {x : Pk} {db : Nat} {v bv cv : Value} {e : Ending} (he : e = .returned (.pointer (some ⟨b, 0, none⟩))) (h : Parts w' w.heap.size ok b x db v bv cv) (hb : Below w.heap.size w w') : Made w x e w' :=
  ⟨b, he, h.pk.mono (fun _ _ => trivial), hb⟩

/-- The bytes of a row read (C) lie where Write looks. -/
theorem reads_cells {w : World} {A : Option Addr} {ys : List Int} (h : B8.C w A ys.length ys) : (A = none ∧ ys = []) ∨ ∃ a, (A = some a ∨ ys = []) ∧ ∀ j u, (nums .u8 ys)[j]? = some u → w.cell? (a.add j) = some u := by
  rcases Nat.eq_zero_or_pos ys.length with h0 | h0
  · have : ys = [] := List.eq_nil_of_length_eq_zero h0
    subst this
    exact Or.inr ⟨⟨0, 0, none⟩, Or.inr rfl, fun j u hj => by simp [nums] at hj⟩
  · obtain ⟨a, rfl, _⟩ := Kd.at_int h 0 (by omega) (by omega)
    refine Or.inr ⟨a, Or.inl rfl, fun j u hj => ?_⟩
    have hl : j < ys.length := by
      have := (List.getElem?_eq_some_iff.1 hj).1
      rw [nums_length] at this
      exact this
    obtain ⟨a', e, hc⟩ := Kd.at_int h (j : Int) (by omega) (by omega)
    injection e with e
    subst e
    rw [Int.toNat_natCast] at hc
    rw [hc]
    rw [nums, List.getElem?_map, List.getElem?_eq_getElem hl] at hj
    rw [← hj]
    simp [rd, List.getD_eq_getElem?_getD, List.getElem?_eq_getElem hl]

/-- Write of what a row holds, wherever it lies but in the struct's block. -/
theorem write_row (b : Nat) (v : Value) (xs ys : List Int) (A : Option Addr) (c : Nat) (w : World) (h : IsBuf w b v xs) (hr : B8.C w A ys.length ys) (hne : ∀ a, A = some a → 1 ≤ ys.length → a.block ≠ b) (hlim : xs.length + ys.length ≤ 140737488355328) :
    Calls Tryd.prog 42 #[.pointer (some ⟨b, 0, none⟩), .slice A ys.length c] w fun e w' => Wrote w b v (xs ++ ys) (.returned (.tuple #[.int .i64 ys.length, .nilIface])) e w' := by
  by_cases h0 : ys = []
  · subst h0
    rw [List.append_nil]
    exact write_none b v xs A c w h
  · have hpos : 1 ≤ ys.length := by
      rcases Nat.eq_zero_or_pos ys.length with h1 | h1
      · exact absurd (List.eq_nil_of_length_eq_zero h1) h0
      · exact h1
    rcases reads_cells hr with ⟨_, h1⟩ | ⟨a, rfl | h1, hc⟩
    · exact absurd h1 h0
    · exact write_any b v xs ys a c w h (hne a rfl hpos) hc hlim
    · exact absurd h1 h0
end Go.Proofs.YtcohjechpnlogaaDoor.Ber
