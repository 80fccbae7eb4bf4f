/- impl.operation once more, where the method takes its receiver by value: what it is handed is read from memory. · The method of *ldap.ExtendedRequest takes its receiver by value: it is read from memory. · An extended request: its packet; impl.Extended. · impl.Extended: an extended request, with a value or without. · The request to change a password: the package's packets, in their eight forms. -/
import Derived.Test.YtbmcpjkhnhbjdaaDoorReq
import Derived.Deep.RegionLaw
namespace Go.Proofs.YtbmcpjkhnhbjdaaDoor.Ber
open Go.RowKit Go.Proofs.YtbmcpjkhnhbjdaaDoorW.PrintWords Go.Proofs.YtbmcpjkhnhbjdaaDoor.Buf Go.Proofs.YtbmcpjkhnhbjdaaDoor.Pk Go.Proofs.YtbmcpjkhnhbjdaaDoor.Num Go.Proofs.YtbmcpjkhnhbjdaaDoor.PFnEncode
set_option linter.unusedVariables false
set_option linter.unusedSimpArgs false

/-- what a request's method does to an envelope: one child more, which may be older -/
def AppendsW (F : FuncId) (v : Value) (x : Pk) (w : World) : Prop :=
  ∀ (q : Nat) (E : Pk) (n : Nat) (W : World), At W W w.heap.size q E → Top E n → n < 100000000000 → Below w.heap.size w W → Calls Tryd.prog F #[v, .pointer (some ⟨q, 0, none⟩)] W fun e w' => e = .returned .nilIface ∧ (∃ lo, IsPk w' lo (fun _ => True) q (addK E x)) ∧ Below w.heap.size W w'
/-- AppendChild: parent and child lie in blocks apart. -/
theorem app_set {lo : Nat} {okx oky : Nat → Prop} {q qc : Nat} {x y : Pk} {n m : Nat} {W : World} (hx : IsPk W lo okx q x) (hy : IsPk W lo oky qc y) (hd : ∀ k, oky k → ¬ okx k) (hlo : lo ≤ W.heap.size) (tx : Top x n) (ty : Top y m) (hn : n < 1000000000000) (hm : m < 1000000000000) :
    Calls Tryd.prog 93 #[.pointer (some ⟨q, 0, none⟩), .pointer (some ⟨qc, 0, none⟩)] W fun e w' => (∃ u, e = .returned u) ∧ IsPk w' lo (fun k => okx k ∨ oky k ∨ W.heap.size ≤ k) q (addK x y) ∧ Only okx W w' := by
  obtain ⟨db, v, bv, cv, P⟩ := parts_of hx.bound
  obtain ⟨dq, vq, bq, cq, C⟩ := parts_of hy.bound
  have hl := tx.ln
  have hl2 := ty.ln
  have hk := tx.nk
  have h0 := ty.c0
  have h1 := ty.c1
  have h2 := ty.cm
  have e1 : y.cls = y.cls / 64 * 64 := by omega
  have e2 : y.typ = if decide (y.typ = 32) = true then 32 else 0 := by
    rcases ty.ty with h | h <;> simp [h]
  refine (append_any (y.cls / 64) y.tag (decide (y.typ = 32)) (by omega) (by omega) ty.t0 ty.t1 x y e1 e2 rfl (by omega) (by omega) (by omega) W P C (fun j h1 h2 => hd j h1.1 h2.1) (fun j h1 => h1.2.2) hlo (fun j h1 => h1.2.1)).mono ?_
  rintro e W7 ⟨hu, hO7, v7, cv7, hP7⟩
  exact ⟨hu, (hP7.okmono (ok' := fun k => okx k ∨ oky k ∨ W.heap.size ≤ k) (fun k hk => hk.elim (fun h => .inl h.1) (fun h => h.elim (fun h => .inr (.inl h.1)) (fun h => .inr (.inr h))))).pk, hO7.mono (fun i hi h => h.1)⟩

set_option maxHeartbeats 3200000 in
set_option maxRecDepth 100000 in
theorem envelope_of (T F : Nat) (v u : Value) (x : Pk) (id : Int) (w : World) (hid : -9223372036854775808 ≤ id ∧ id ≤ 9223372036854775807)
    (hta : ∀ w : World, (Instr.typeAssert (.iface T v) 20 200 true).run Tryd.prog w = .ok (.tuple #[.iface T v, .bool true]) w)
    (hm : ∀ U : World, Below w.heap.size w U → (method 366 T v "goldap/pub/goldap.appendTo").run Tryd.prog U = .ok (F, u) U)
    (hcf : ∀ (args : Array Value) (w : World), (callFunc F args).run Tryd.prog w = .ok (.enter F args) w)
    (happ : AppendsW F u x w) :
    Calls Tryd.prog 81 #[.int .i64 id, .iface T v] w fun e w' => ∃ q lo, e = .returned (.pointer (some ⟨q, 0, none⟩)) ∧ IsPk w' lo (fun _ => True) q (addK (env0 id) x) ∧ Below w.heap.size w w' := by
  have HAPP := Lib.hid happ
  have HM := Lib.hid hm
  clear hm
  have HID := Lib.hid hid
  have HTOP := Lib.hid (env0_top id hid)
  have s1 : Top (bare 0 32 16 .nilIface ⟨#[76, 68, 65, 80, 32, 82, 101, 113, 117, 101, 115, 116]⟩) 0 := bare_top _ _ _ _ _ (by decide) (by decide) (by decide) (Or.inr rfl) (by decide) (by decide)
  have s2 : Top (prim 0 0 2 (.iface 2 (.int .i64 id)) (whole id) ⟨#[77, 101, 115, 115, 97, 103, 101, 73, 68]⟩) 8 := prim_top _ _ _ _ _ _ (by decide) (by decide) (by decide) (Or.inl rfl) (by decide) (by decide) (by have := wl_le8 id hid; rw [whole, be_length]; exact this)
  have HT := Lib.hid (And.intro s1 s2)
  clear happ hid s1 s2
  go_enter Tryd.func81, Tryd.ntmps81
  go_wp2_with (first
    | (go_at_call 87
       with_reducible refine (encode_at 0 32 16 _ w).mono ?_
       rintro e W1 ⟨q, rfl, hA1, hB1⟩
       have HA1 := Lib.hid hA1
       have HB1 := Lib.hid hB1
       clear hA1 hB1)
    | (go_at_call 103
       with_reducible refine (newInt_i64 0 0 2 id _ W1 HID.out).mono ?_
       rintro e W2 h2
       obtain ⟨q2, rfl, hA2, hB2⟩ := h2.at
       have HC2 := Lib.hid (app_at (HA1.out.on hB2) hA2 (Nat.le_refl _) HT.out.1 HT.out.2 (by decide) (by decide))
       have HB2 := Lib.hid (HB1.out.trans (hB2.mono HB1.out.size))
       clear h2 hA2 hB2 HA1 HB1)
    | (go_at_call 93
       with_reducible refine HC2.out.mono ?_
       rintro e W3 ⟨⟨u_, rfl⟩, hA3, hB3⟩
       have hb3 := HB2.out.trans hB3
       have HC3 := Lib.hid (HAPP.out q _ _ W3 hA3 HTOP.out (by decide) hb3)
       have HB3 := Lib.hid hb3
       have hm3 := HM.out W3 hb3
       clear hA3 hB3 hb3 HC2 HB2)
    | (with_reducible refine HC3.out.mono ?_
       rintro e W4 ⟨rfl, hA4, hB4⟩
       have HA4 := Lib.hid hA4
       have HB4 := Lib.hid (HB3.out.trans hB4)
       clear hA4 hB4 HC3 HB3))
  go_ret
  obtain ⟨lo, hi⟩ := HA4.out
  exact ⟨q, lo, rfl, hi, HB4.out⟩

set_option maxHeartbeats 3200000 in
set_option maxRecDepth 100000 in
theorem closure_of (T F : Nat) (v u : Value) (x : Pk) (a g : Nat) (W : World)
    (hta : ∀ w : World, (Instr.typeAssert (.iface T v) 20 200 true).run Tryd.prog w = .ok (.tuple #[.iface T v, .bool true]) w)
    (hm : ∀ U : World, Below W.heap.size W U → (method 366 T v "goldap/pub/goldap.appendTo").run Tryd.prog U = .ok (F, u) U)
    (hcf : ∀ (args : Array Value) (w : World), (callFunc F args).run Tryd.prog w = .ok (.enter F args) w)
    (happ : AppendsW F u x W) (hx : okP x)
    (hreq : W.heap[a]? = some (.cells #[.iface T v] 20 (0, 0))) (hp : W.heap[g]? = some (.cells #[.int .i64 0, .int .i64 0, .bool false, .slice none 0 0, .slice none 0 0] 27 (0, 0))) :
    Calls Tryd.prog 84 #[.pointer (some ⟨a, 0, none⟩), .pointer (some ⟨g, 0, none⟩)] W fun e w' => e = .returned (.bool true) ∧
      (∃ A3 c3 A4 c4, w'.heap[g]? = some (.cells #[.int .i64 (trOf x).f0, .int .i64 (trOf x).f1, .bool (trOf x).f2, .slice A3 (trOf x).f3.length c3, .slice A4 (trOf x).f4.length c4] 27 (0, 0)) ∧ B8.R 5 w' W.heap.size (fun _ => True) (.slice A3 (trOf x).f3.length c3) (trOf x).f3 ∧ k27.R 27 w' W.heap.size (fun _ => True) (.slice A4 (trOf x).f4.length c4) (trOf x).f4) ∧ Only (fun i => i = g) W w' := by
  have HE := Lib.hid (envelope_of T F v u x 0 W (by decide) hta hm hcf happ)
  have c0 : W.cell? ⟨a, 0, none⟩ = some (.iface T v) := blk_cell hreq 0
  have HP := Lib.hid hp
  have HX := Lib.hid hx
  have hgw := Lib.hid (blk_lt hp)
  clear hta hm hcf happ hreq hp hx
  go_enter Tryd.func84, Tryd.ntmps84
  go_wp2_with (first
    | (go_at_call 81
       with_reducible refine HE.out.mono ?_
       rintro e W1 ⟨q, lo, rfl, hA, hB⟩
       obtain ⟨db, vv, bv, cv, P⟩ := parts_of hA
       obtain ⟨ad, cap, q2, hsl, hcell, hkid⟩ := kid_at0 P.rk (k := 1) (by show 1 < 2; decide)
       have c6 : W1.cell? ⟨q, 6, none⟩ = some (.slice (some ⟨ad, 0, none⟩) 2 cap) := by
         have := P.cell 6
         rw [hsl] at this
         exact this
       have HU := Lib.hid (unpk_any (dp x) x (Nat.le_refl _) HX.out q2 _ _ W1 hkid)
       have HP1 := Lib.hid (blk_below HP.out hB)
       have HB1 := Lib.hid hB
       clear hA hB P hsl hkid HE)
    | (go_at_call 82
       with_reducible refine HU.out.mono ?_
       rintro e W2 ⟨c, rfl, hM, hB2⟩
       obtain ⟨v3, v4, rfl, r3, r4⟩ := k27_openM hM
       obtain ⟨A3, c3, h3⟩ := Kd.R_slice r3
       obtain ⟨A4, c4, h4⟩ := Kd.R_slice r4
       subst h3
       subst h4
       have HP2 := Lib.hid (blk_below HP1.out hB2)
       have HB2 := Lib.hid (HB1.out.trans (hB2.mono HB1.out.size))
       have HS1 := Lib.hid HB1.out.size
       have k0 : W2.cell? ⟨g, 0, none⟩ = some (.int .i64 0) := blk_cell HP2.out 0
       have k1 : W2.cell? ⟨g, 1, none⟩ = some (.int .i64 0) := blk_cell HP2.out 1
       have k2 : W2.cell? ⟨g, 2, none⟩ = some (.bool false) := blk_cell HP2.out 2
       have k3 : W2.cell? ⟨g, 3, none⟩ = some (.slice none 0 0) := blk_cell HP2.out 3
       have k4 : W2.cell? ⟨g, 4, none⟩ = some (.slice none 0 0) := blk_cell HP2.out 4
       have kf0 := blk_frozen HP2.out 0
       have kf1 := blk_frozen HP2.out 1
       have kf2 := blk_frozen HP2.out 2
       have kf3 := blk_frozen HP2.out 3
       have kf4 := blk_frozen HP2.out 4
       have HR3 := Lib.hid r3
       have HR4 := Lib.hid r4
       clear r3 r4 hM hB2 HU HP1 HB1 c6 hcell))
  obtain ⟨h5, ho5⟩ := store5 (v0 := .int .i64 (trOf x).f0) (v1 := .int .i64 (trOf x).f1) (v2 := .bool (trOf x).f2) (v3 := .slice A3 (trOf x).f3.length c3) (v4 := .slice A4 (trOf x).f4.length c4) HP2.out rfl
  go_ret
  refine ⟨rfl, ⟨A3, c3, A4, c4, h5, ?_, ?_⟩, (Only.of_below _ HB2.out).trans ho5 (fun _ _ h => h)⟩
  · exact Kd.R_lower (Kd.R_mono (Kd.R_move (Kd.R_bound HR3.out) (fun k hk => ho5.block k hk.2.2.1 (by have := hk.2.1; have := HS1.out; have := hgw.out; show ¬ k = g; omega))) (fun _ _ => trivial)) HS1.out
  · exact Kd.R_lower (Kd.R_mono (Kd.R_move (Kd.R_bound HR4.out) (fun k hk => ho5.block k hk.2.2.1 (by have := hk.2.1; have := HS1.out; have := hgw.out; show ¬ k = g; omega))) (fun _ _ => trivial)) HS1.out

set_option maxHeartbeats 3200000 in
set_option maxRecDepth 100000 in
theorem operation_of (T F : Nat) (v u : Value) (x : Pk) (w : World)
    (hta : ∀ w : World, (Instr.typeAssert (.iface T v) 20 200 true).run Tryd.prog w = .ok (.tuple #[.iface T v, .bool true]) w)
    (hm : ∀ U : World, Below w.heap.size w U → (method 366 T v "goldap/pub/goldap.appendTo").run Tryd.prog U = .ok (F, u) U)
    (hcf : ∀ (args : Array Value) (w : World), (callFunc F args).run Tryd.prog w = .ok (.enter F args) w)
    (happ : ∀ W, Below w.heap.size w W → AppendsW F u x W) (hx : okP x) :
    Calls Tryd.prog 43 #[.iface T v] w (OpRes w (trOf x)) := by
  have hmf : ∀ (fn : Fn) (first cap : Array Value) (w : World), (Instr.makeFunc fn first cap).run Tryd.prog w = .ok (.func fn first cap) w := fun _ _ _ _ => rfl
  obtain ⟨W0, hW0⟩ : ∃ W0, W0 = (w.alloc (.cells #[.iface T v] 20)).alloc (.cells #[.int .i64 0, .int .i64 0, .bool false, .slice none 0 0, .slice none 0 0] 27) := ⟨_, rfl⟩
  have hs0 : W0.heap.size = w.heap.size + 1 + 1 := by rw [hW0]; simp
  have hb0 : Below w.heap.size w W0 := by rw [hW0]; exact below_alloc (below_alloc (Below.refl _ _) _) _
  have hr0 : W0.heap[w.heap.size]? = some (.cells #[.iface T v] 20 (0, 0)) := by rw [hW0]; exact blk_alloc (blk_new _ _) _
  have hp0 : W0.heap[w.heap.size + 1]? = some (.cells #[.int .i64 0, .int .i64 0, .bool false, .slice none 0 0, .slice none 0 0] 27 (0, 0)) := by
    have := blk_new (w.alloc (.cells #[.iface T v] 20)) (.cells #[.int .i64 0, .int .i64 0, .bool false, .slice none 0 0, .slice none 0 0] 27)
    have e : (w.alloc (.cells #[.iface T v] 20)).heap.size = w.heap.size + 1 := by simp
    rw [e, ← hW0] at this
    exact this
  have HS := Lib.hid (safely_any #[.pointer (some ⟨w.heap.size, 0, none⟩), .pointer (some ⟨w.heap.size + 1, 0, none⟩)] true
    (fun w' => (∃ A3 c3 A4 c4, w'.heap[w.heap.size + 1]? = some (.cells #[.int .i64 (trOf x).f0, .int .i64 (trOf x).f1, .bool (trOf x).f2, .slice A3 (trOf x).f3.length c3, .slice A4 (trOf x).f4.length c4] 27 (0, 0)) ∧ B8.R 5 w' (W0.heap.size + 1) (fun _ => True) (.slice A3 (trOf x).f3.length c3) (trOf x).f3 ∧ k27.R 27 w' (W0.heap.size + 1) (fun _ => True) (.slice A4 (trOf x).f4.length c4) (trOf x).f4) ∧ Below w.heap.size w w') W0
    (by
      intro W hW
      have hbW : Below w.heap.size w W := by rw [hW]; exact below_alloc hb0 _
      have hsW : W.heap.size = W0.heap.size + 1 := by rw [hW]; simp
      have hc := closure_of T F v u x w.heap.size (w.heap.size + 1) W hta (fun W1 h1 => hm W1 (hbW.trans (h1.mono hbW.size))) hcf (happ W hbW) hx (by rw [hW]; exact blk_alloc hr0 _) (by rw [hW]; exact blk_alloc hp0 _)
      rw [hsW] at hc
      refine hc.mono ?_
      rintro e w' ⟨rfl, hq, ho⟩
      refine ⟨rfl, ⟨hq, hbW.trans (ho.below hbW.size (fun i hi => by omega))⟩, ?_⟩
      have hbl : W.heap[W0.heap.size]? = some (.cells #[.bool false] 4 (0, 0)) := by rw [hW]; exact blk_new _ _
      exact (ho.block _ (by omega) (by show ¬ _ = w.heap.size + 1; omega)).trans hbl))
  have HS0 := Lib.hid hs0
  have HW0 := Lib.hid hW0
  clear hta hm hcf happ hx hb0 hr0 hp0 hs0 hW0
  go_enter Tryd.func43, Tryd.ntmps43
  go_wp2_with (go_at_call 77
               rw [← HW0.out]
               with_reducible refine HS.out.mono ?_
               rintro e w' ⟨rfl, W1, ⟨⟨A3, c3, A4, c4, hg, r3, r4⟩, hb1⟩, rfl⟩
               have hne : w.heap.size + 1 ≠ W0.heap.size := by have := HS0.out; omega
               have hg2 := blk_far hg (p := ⟨W0.heap.size, 0, none⟩) hne (.bool true)
               have r32 := Kd.R_far (Kd.R_mono (ok' := fun k => k ≠ W0.heap.size) (Kd.R_bound r3) (fun k hk => by have := hk.2.1; omega)) (p := ⟨W0.heap.size, 0, none⟩) (fun k hk => hk) (.bool true)
               have r42 := Kd.R_far (Kd.R_mono (ok' := fun k => k ≠ W0.heap.size) (Kd.R_bound r4) (fun k hk => by have := hk.2.1; omega)) (p := ⟨W0.heap.size, 0, none⟩) (fun k hk => hk) (.bool true)
               have hb2 : Below w.heap.size w (W1.setCell ⟨W0.heap.size, 0, none⟩ (.bool true)) := hb1.setCell (p := ⟨W0.heap.size, 0, none⟩) (by have := HS0.out; show w.heap.size ≤ W0.heap.size; omega) _
               obtain ⟨W2, hW2⟩ : ∃ W2, W2 = W1.setCell ⟨W0.heap.size, 0, none⟩ (.bool true) := ⟨_, rfl⟩
               rw [← hW2] at hg2 r32 r42 hb2 ⊢
               have HG2 := Lib.hid hg2
               have HR3 := Lib.hid r32
               have HR4 := Lib.hid r42
               have HB2 := Lib.hid hb2
               have k0 : W2.cell? ⟨w.heap.size + 1, 0, none⟩ = some (.int .i64 (trOf x).f0) := blk_cell hg2 0
               have k1 : W2.cell? ⟨w.heap.size + 1, 1, none⟩ = some (.int .i64 (trOf x).f1) := blk_cell hg2 1
               have k2 : W2.cell? ⟨w.heap.size + 1, 2, none⟩ = some (.bool (trOf x).f2) := blk_cell hg2 2
               have k3 : W2.cell? ⟨w.heap.size + 1, 3, none⟩ = some (.slice A3 (trOf x).f3.length c3) := blk_cell hg2 3
               have k4 : W2.cell? ⟨w.heap.size + 1, 4, none⟩ = some (.slice A4 (trOf x).f4.length c4) := blk_cell hg2 4
               have kf0 := blk_frozen hg2 0
               have kf1 := blk_frozen hg2 1
               have kf2 := blk_frozen hg2 2
               have kf3 := blk_frozen hg2 3
               have kf4 := blk_frozen hg2 4
               clear hg r3 r4 hb1 hg2 r32 r42 hb2 hW2 HS)
  try simp only [Exit.inBlock, Exit.then]
  obtain ⟨h5, hend⟩ := op_end HB2.out (by omega) (show w.heap.size + 1 < W0.heap.size + 1 by have := HS0.out; omega) HG2.out HR3.out HR4.out rfl
  exact bodyPost_ret (results_ct (p := 2) (u := 3) rfl _ _ _ _ _ _ _ rfl h5 Tryd.underlying27 rfl size_ip) rfl hend

end Go.Proofs.YtbmcpjkhnhbjdaaDoor.Ber

namespace Go.Proofs.YtbmcpjkhnhbjdaaDoor.Ber
open Go.RowKit Go.Proofs.YtbmcpjkhnhbjdaaDoorW.PrintWords Go.Proofs.YtbmcpjkhnhbjdaaDoor.Buf Go.Proofs.YtbmcpjkhnhbjdaaDoor.Pk Go.Proofs.YtbmcpjkhnhbjdaaDoor.Num Go.Proofs.YtbmcpjkhnhbjdaaDoor.PFnEncode
set_option linter.unusedVariables false
set_option linter.unusedSimpArgs false
theorem chk_some (a : Addr) (t : TypeId) (s : String) (W : World) : (Builtin.ssaWrapNilChk_ #[t] t #[.pointer (some a), strVal "", strVal s]).run Tryd.prog W = .ok (.pointer (some a)) W := rfl
set_option maxRecDepth 100000 in
theorem Ext_m {r : Nat} {W : World} {oid : ByteArray} {pv : Value} (hr : W.heap[r]? = some (.cells #[.string oid, pv, .slice none 0 0] 125 (0, 0))) :
    (method 366 116 (.pointer (some ⟨r, 0, none⟩)) "goldap/pub/goldap.appendTo").run Tryd.prog W = .ok (143, (.agg #[.string oid, pv, .slice none 0 0])) W := by
  have h0 : W.cell? ⟨r, 0, none⟩ = some (.string oid) := blk_cell hr 0
  have h1 : W.cell? ⟨r, 1, none⟩ = some pv := blk_cell hr 1
  have h2 : W.cell? ⟨r, 2, none⟩ = some (.slice none 0 0) := blk_cell hr 2
  have hm : (Array.find? (fun x => x.name == "goldap/pub/goldap.appendTo") Tryd.t116.methods).map (fun m => (m.path, m.func)) = some (#[], some (143, false)) := by kernel_rfl
  unfold method
  cases hq : Array.find? (fun x => x.name == "goldap/pub/goldap.appendTo") Tryd.t116.methods with
  | none => rw [hq] at hm; cases hm
  | some m =>
    rw [hq] at hm
    simp only [Option.map_some, Option.some.injEq, Prod.mk.injEq] at hm
    simp [go_sem, follow, receiverAt, Place.get, hq, hm.1, hm.2, h0, h1, h2, chk_some]
end Go.Proofs.YtbmcpjkhnhbjdaaDoor.Ber

namespace Go.Proofs.YtbmcpjkhnhbjdaaDoor.Ber
open Go.RowKit Go.Proofs.YtbmcpjkhnhbjdaaDoorW.PrintWords Go.Proofs.YtbmcpjkhnhbjdaaDoor.PFnEncode Go.Proofs.YtbmcpjkhnhbjdaaDoor.Tree Go.Proofs.YtbmcpjkhnhbjdaaDoor.Buf Go.Proofs.YtbmcpjkhnhbjdaaDoor.Pk Go.Proofs.YtbmcpjkhnhbjdaaDoor.Within Go.Proofs.YtbmcpjkhnhbjdaaDoor.Num
set_option linter.unusedVariables false
set_option linter.unusedSimpArgs false

def pExtN (oid : ByteArray) : Pk := addK (bare 64 32 23 .nilIface ⟨#[69, 120, 116, 101, 110, 100, 101, 100, 32, 82, 101, 113, 117, 101, 115, 116]⟩) (prim 128 0 0 (strV oid) (bytesOf oid) ⟨#[69, 120, 116, 101, 110, 100, 101, 100, 32, 82, 101, 113, 117, 101, 115, 116, 32, 78, 97, 109, 101]⟩)
def pExtV (oid s : ByteArray) : Pk := addK (pExtN oid) (prim 128 0 1 (strV s) (bytesOf s) ⟨#[]⟩)
theorem pExtN_fine (oid : ByteArray) (hoid : oid.size ≤ 1000000) : Fine (pExtN oid) 1000014 := (fine_add (fine_bare _ _ _ _ _ (by decide) (by decide) (by decide) (Or.inr rfl) (by decide) (by decide)) (fine_str _ _ _ _ _ (by decide) (by decide) (by decide) (Or.inl rfl) (by decide) (by decide) hoid) (by decide)).le (by omega)
theorem pV_fine (s : ByteArray) (hs : s.size ≤ 1000000) : Fine (prim 128 0 1 (strV s) (bytesOf s) ⟨#[]⟩) 1000000 := (fine_str _ _ _ _ _ (by decide) (by decide) (by decide) (Or.inl rfl) (by decide) (by decide) hs)
theorem pExtV_fine (oid s : ByteArray) (hoid : oid.size ≤ 1000000) (hs : s.size ≤ 1000000) : Fine (pExtV oid s) 2000028 := (fine_add (pExtN_fine oid hoid) (pV_fine s hs) (by decide)).le (by omega)
theorem encVal (qv : Nat) (W : World) (h0 : W.cell? ⟨qv, 0, none⟩ = some (.int .u8 128)) (h2 : W.cell? ⟨qv, 2, none⟩ = some (.int .u64 1)) :
    Calls Tryd.prog 144 #[.pointer (some ⟨qv, 0, none⟩)] W fun e w' => e = .returned (.pointer (some ⟨qv, 0, none⟩)) ∧ w' = W := by
  go_enter Tryd.func144, Tryd.ntmps144
  go_wp2
  go_ret
  exact ⟨rfl, rfl⟩
set_option maxHeartbeats 3200000 in
set_option maxRecDepth 100000 in
theorem appendTo_ExtN (oid : ByteArray) (hoid : oid.size ≤ 1000000) (q base n : Nat) (E : Pk) (w : World) (hE : At w w base q E) (tE : Top E n) (hn : n < 100000000000) :
    Calls Tryd.prog 143 #[.agg #[.string oid, .pointer none, .slice none 0 0], .pointer (some ⟨q, 0, none⟩)] w fun e w' => e = .returned .nilIface ∧ (∃ lo, IsPk w' lo (fun _ => True) q (addK E (pExtN oid))) ∧ Below base w w' := by
  obtain ⟨W0, hW0⟩ : ∃ W0, W0 = w.alloc (.cells #[.string oid, .pointer none, .slice none 0 0] 125) := ⟨_, rfl⟩
  have hb0 : Below w.heap.size w W0 := by rw [hW0]; exact below_alloc (Below.refl _ _) _
  have hs0 : W0.heap.size = w.heap.size + 1 := by rw [hW0]; simp
  have hz0 : W0.heap[w.heap.size]? = some (.cells #[.string oid, .pointer none, .slice none 0 0] 125 (0, 0)) := by rw [hW0]; exact blk_new _ _
  have HE := Lib.hid hE
  have TE := Lib.hid tE
  have HB0 := Lib.hid hb0
  have HS0 := Lib.hid hs0
  have HZ0 := Lib.hid hz0
  have HW0 := Lib.hid hW0
  have HN : Hid (oid.size ≤ 140737488355328) := Lib.hid (by omega)
  have HLE := Lib.hid hE.le
  have HF0 : Hid (Top (bare 64 32 23 .nilIface ⟨#[69, 120, 116, 101, 110, 100, 101, 100, 32, 82, 101, 113, 117, 101, 115, 116]⟩) 0) := Lib.hid (fine_bare _ _ _ _ _ (by decide) (by decide) (by decide) (Or.inr rfl) (by decide) (by decide)).1
  have HF1 : Hid (Top (prim 128 0 0 (strV oid) (bytesOf oid) ⟨#[69, 120, 116, 101, 110, 100, 101, 100, 32, 82, 101, 113, 117, 101, 115, 116, 32, 78, 97, 109, 101]⟩) 1000000) := Lib.hid (fine_str _ _ _ _ _ (by decide) (by decide) (by decide) (Or.inl rfl) (by decide) (by decide) hoid).1
  have HF2 : Hid (Top (pExtN oid) 1000014) := Lib.hid (pExtN_fine oid hoid).1
  clear hE tE hb0 hs0 hz0 hW0 hoid
  go_enter Tryd.func143, Tryd.ntmps143
  go_wp2_with (first
    | (go_at_call 87
       rw [← HW0.out]
       with_reducible refine (encode_at 64 32 23 _ W0).mono ?_
       rintro e W1 ⟨qp, rfl, hA, hB⟩
       have HA1 := Lib.hid hA
       have HZ1 := Lib.hid (blk_below HZ0.out hB)
       have c1 : W1.cell? ⟨w.heap.size, 0, none⟩ = some (.string oid) := blk_cell HZ1.out 0
       have HB1 := Lib.hid hB
       clear hA hB)
    | (go_at_call 62
       with_reducible refine (string_at 128 0 0 oid _ W1 HN.out).mono ?_
       rintro e W2 ⟨qc, rfl, hA, hB⟩
       have HL2 := Lib.hid HA1.out.bel.size
       have HA2 := Lib.hid (HA1.out.on hB)
       have HC2 := Lib.hid hA
       have HB2 := Lib.hid (HB1.out.trans (hB.mono HB1.out.size))
       clear hA hB)
    | (go_at_call 93
       first
       | (with_reducible refine (app_at HA2.out HC2.out HL2.out HF0.out HF1.out (by decide) (by decide)).mono ?_
          rintro e W3 ⟨⟨u3, rfl⟩, hA, hB⟩
          have HA3 : Hid (At W3 W3 W0.heap.size qp (pExtN oid)) := Lib.hid hA
          have HB3 := Lib.hid (HB2.out.trans hB)
          have HZ3 := Lib.hid ((HB3.out.block w.heap.size (by have := HS0.out; omega)).trans HZ0.out)
          have c3 : W3.cell? ⟨w.heap.size, 1, none⟩ = some (.pointer none) := blk_cell HZ3.out 1
          have HX3 : Hid (IsPk W3 base (fun k => W0.heap.size ≤ k) qp (pExtN oid)) := Lib.hid ((hA.is.bound.mono (fun k hk => hk.2.1)).lower (by have := HLE.out; have := HS0.out; omega))
          have HE3 : Hid (IsPk W3 base (fun k => base ≤ k ∧ k < w.heap.size) q E) := Lib.hid ((HE.out.is.bound.mono (fun k hk => hk.2)).below (HB0.out.trans (HB3.out.mono HB0.out.size)))
          clear hA hB)
       | (with_reducible refine (app_set HE3.out HX3.out (fun k hk h => by have h1 := HS0.out; omega) (by have := HLE.out; have := HB0.out.size; have := HB3.out.size; omega) TE.out HF2.out (by omega) (by decide)).mono ?_
          rintro e W5 ⟨⟨u5, rfl⟩, hA, hO⟩
          have HA5 := Lib.hid hA
          have hz5 := (hO.block w.heap.size (by have := HB3.out.size; have := HS0.out; omega) (by omega)).trans HZ3.out
          have c5 : W5.cell? ⟨w.heap.size, 2, none⟩ = some (.slice none 0 0) := blk_cell hz5 2
          have HB5 := Lib.hid (((HB0.out.trans (HB3.out.mono HB0.out.size)).mono HLE.out).trans (hO.below (Nat.le_trans HLE.out (Nat.le_trans HB0.out.size HB3.out.size)) (fun i hi => hi.1)))
          clear hA hO hz5)))
  go_ret
  exact ⟨rfl, ⟨base, HA5.out.mono (fun _ _ => trivial)⟩, HB5.out⟩

set_option maxHeartbeats 3200000 in
set_option maxRecDepth 100000 in
theorem appendTo_ExtV (oid s : ByteArray) (hoid : oid.size ≤ 1000000) (hs : s.size ≤ 1000000) (q qv base lo n : Nat) (E : Pk) (w : World) (hE : At w w base q E) (tE : Top E n) (hn : n < 100000000000) (hV : IsPk w lo (fun k => lo ≤ k ∧ k < base) qv (prim 128 0 1 (strV s) (bytesOf s) ⟨#[]⟩)) (hlo : lo ≤ base) :
    Calls Tryd.prog 143 #[.agg #[.string oid, .pointer (some ⟨qv, 0, none⟩), .slice none 0 0], .pointer (some ⟨q, 0, none⟩)] w fun e w' => e = .returned .nilIface ∧ (∃ lo, IsPk w' lo (fun _ => True) q (addK E (pExtV oid s))) ∧ Below base w w' := by
  obtain ⟨W0, hW0⟩ : ∃ W0, W0 = w.alloc (.cells #[.string oid, .pointer (some ⟨qv, 0, none⟩), .slice none 0 0] 125) := ⟨_, rfl⟩
  have hb0 : Below w.heap.size w W0 := by rw [hW0]; exact below_alloc (Below.refl _ _) _
  have hs0 : W0.heap.size = w.heap.size + 1 := by rw [hW0]; simp
  have hz0 : W0.heap[w.heap.size]? = some (.cells #[.string oid, .pointer (some ⟨qv, 0, none⟩), .slice none 0 0] 125 (0, 0)) := by rw [hW0]; exact blk_new _ _
  have HE := Lib.hid hE
  have TE := Lib.hid tE
  have HB0 := Lib.hid hb0
  have HS0 := Lib.hid hs0
  have HZ0 := Lib.hid hz0
  have HW0 := Lib.hid hW0
  have HN : Hid (oid.size ≤ 140737488355328) := Lib.hid (by omega)
  have HLE := Lib.hid hE.le
  have HF0 : Hid (Top (bare 64 32 23 .nilIface ⟨#[69, 120, 116, 101, 110, 100, 101, 100, 32, 82, 101, 113, 117, 101, 115, 116]⟩) 0) := Lib.hid (fine_bare _ _ _ _ _ (by decide) (by decide) (by decide) (Or.inr rfl) (by decide) (by decide)).1
  have HF1 : Hid (Top (prim 128 0 0 (strV oid) (bytesOf oid) ⟨#[69, 120, 116, 101, 110, 100, 101, 100, 32, 82, 101, 113, 117, 101, 115, 116, 32, 78, 97, 109, 101]⟩) 1000000) := Lib.hid (fine_str _ _ _ _ _ (by decide) (by decide) (by decide) (Or.inl rfl) (by decide) (by decide) hoid).1
  have HF2 : Hid (Top (pExtN oid) 1000014) := Lib.hid (pExtN_fine oid hoid).1
  have HF3 : Hid (Top (prim 128 0 1 (strV s) (bytesOf s) ⟨#[]⟩) 1000000) := Lib.hid (pV_fine s hs).1
  have HF4 : Hid (Top (pExtV oid s) 2000028) := Lib.hid (pExtV_fine oid s hoid hs).1
  have HV := Lib.hid hV
  have HLO := Lib.hid hlo
  clear hV hlo hs
  clear hE tE hb0 hs0 hz0 hW0 hoid
  go_enter Tryd.func143, Tryd.ntmps143
  go_wp2_with (first
    | (go_at_call 87
       rw [← HW0.out]
       with_reducible refine (encode_at 64 32 23 _ W0).mono ?_
       rintro e W1 ⟨qp, rfl, hA, hB⟩
       have HA1 := Lib.hid hA
       have HZ1 := Lib.hid (blk_below HZ0.out hB)
       have c1 : W1.cell? ⟨w.heap.size, 0, none⟩ = some (.string oid) := blk_cell HZ1.out 0
       have HB1 := Lib.hid hB
       clear hA hB)
    | (go_at_call 62
       with_reducible refine (string_at 128 0 0 oid _ W1 HN.out).mono ?_
       rintro e W2 ⟨qc, rfl, hA, hB⟩
       have HL2 := Lib.hid HA1.out.bel.size
       have HA2 := Lib.hid (HA1.out.on hB)
       have HC2 := Lib.hid hA
       have HB2 := Lib.hid (HB1.out.trans (hB.mono HB1.out.size))
       clear hA hB)
    | (go_at_call 144
       refine (encVal qv W3 v0 v2).mono ?_
       rintro e W4 ⟨rfl, hW4⟩
       rw [hW4]
       clear hW4 W4)
    | (go_at_call 93
       first
       | (with_reducible refine (app_at HA2.out HC2.out HL2.out HF0.out HF1.out (by decide) (by decide)).mono ?_
          rintro e W3 ⟨⟨u3, rfl⟩, hA, hB⟩
          have HA3 : Hid (At W3 W3 W0.heap.size qp (pExtN oid)) := Lib.hid hA
          have HB3 := Lib.hid (HB2.out.trans hB)
          have HZ3 := Lib.hid ((HB3.out.block w.heap.size (by have := HS0.out; omega)).trans HZ0.out)
          have c3 : W3.cell? ⟨w.heap.size, 1, none⟩ = some (.pointer (some ⟨qv, 0, none⟩)) := blk_cell HZ3.out 1
          have hv3 := HV.out.below ((HB0.out.trans (HB3.out.mono HB0.out.size)))
          obtain ⟨db, vv, bv, cv, P⟩ := parts_of hv3
          have v0 : W3.cell? ⟨qv, 0, none⟩ = some (.int .u8 128) := P.cell 0
          have v2 : W3.cell? ⟨qv, 2, none⟩ = some (.int .u64 1) := P.cell 2
          have HX3 : Hid (IsPk W3 lo (fun k => W0.heap.size ≤ k) qp (pExtN oid)) := Lib.hid ((hA.is.bound.mono (fun k hk => hk.2.1)).lower (by have := HLO.out; have := HLE.out; have := HS0.out; omega))
          have HV3 := Lib.hid hv3
          clear hA hB hv3 P)
       | (with_reducible refine (app_set HX3.out HV3.out (fun k hk h => by have := HLE.out; have := HS0.out; have := hk.2; omega) (by have := HLO.out; have := HLE.out; have := HB0.out.size; have := HB3.out.size; omega) HF2.out HF3.out (by decide) (by decide)).mono ?_
          rintro e W4 ⟨⟨u4, rfl⟩, hA, hO⟩
          have HB4 := Lib.hid (HB3.out.trans (hO.below HB3.out.size (fun i hi => hi)))
          have HC4 : Hid (IsPk W4 lo (fun k => W0.heap.size ≤ k ∨ (lo ≤ k ∧ k < base) ∨ W3.heap.size ≤ k) qp (pExtV oid s)) := Lib.hid hA
          have HE4 : Hid (IsPk W4 lo (fun k => base ≤ k ∧ k < w.heap.size) q E) := Lib.hid ((((HE.out.is.bound.mono (fun k hk => hk.2)).below (HB0.out.trans (HB4.out.mono HB0.out.size)))).lower HLO.out)
          clear hA hO)
       | (with_reducible refine (app_set HE4.out HC4.out (fun k hk h => by
            have h1 := HS0.out
            have h2 := HB3.out.size
            rcases hk with hk | hk | hk
            · omega
            · omega
            · omega) (by have := HLO.out; have := HLE.out; have := HB0.out.size; have := HB4.out.size; omega) TE.out HF4.out (by omega) (by decide)).mono ?_
          rintro e W5 ⟨⟨u5, rfl⟩, hA, hO⟩
          have HA5 := Lib.hid hA
          have hz5 := (hO.block w.heap.size (by have := HB4.out.size; have := HS0.out; omega) (by omega)).trans ((HB4.out.block w.heap.size (by have := HS0.out; omega)).trans HZ0.out)
          have c5 : W5.cell? ⟨w.heap.size, 2, none⟩ = some (.slice none 0 0) := blk_cell hz5 2
          have HB5 := Lib.hid (((HB0.out.trans (HB4.out.mono HB0.out.size)).mono HLE.out).trans (hO.below (Nat.le_trans HLE.out (Nat.le_trans HB0.out.size HB4.out.size)) (fun i hi => hi.1)))
          clear hA hO hz5)))
  go_ret
  exact ⟨rfl, ⟨lo, HA5.out.mono (fun _ _ => trivial)⟩, HB5.out⟩

end Go.Proofs.YtbmcpjkhnhbjdaaDoor.Ber

namespace Go.Proofs.YtbmcpjkhnhbjdaaDoor.Ber
open Go.RowKit Go.Proofs.YtbmcpjkhnhbjdaaDoorW.PrintWords Go.Proofs.YtbmcpjkhnhbjdaaDoor.PFnEncode Go.Proofs.YtbmcpjkhnhbjdaaDoor.Tree Go.Proofs.YtbmcpjkhnhbjdaaDoor.Buf Go.Proofs.YtbmcpjkhnhbjdaaDoor.Pk Go.Proofs.YtbmcpjkhnhbjdaaDoor.Within Go.Proofs.YtbmcpjkhnhbjdaaDoor.Num
set_option linter.unusedVariables false
set_option linter.unusedSimpArgs false

/-- the request as data -/
def dExtN (oid : ByteArray) : S27 := ⟨1, 23, true, [], [⟨2, 0, false, bytesOf oid, []⟩]⟩
def dExtV (oid s : ByteArray) : S27 := ⟨1, 23, true, [], [⟨2, 0, false, bytesOf oid, []⟩, ⟨2, 1, false, bytesOf s, []⟩]⟩
theorem tr_ExtN (oid : ByteArray) : trOf (pExtN oid) = dExtN oid := by
  unfold pExtN dExtN addK bare prim
  simp [trOf, trL]
theorem tr_ExtV (oid s : ByteArray) : trOf (pExtV oid s) = dExtV oid s := by
  unfold pExtV pExtN dExtV addK bare prim
  simp [trOf, trL]
theorem Ext_ta (r : Nat) : ∀ w : World, (Instr.typeAssert (.iface 116 (.pointer (some ⟨r, 0, none⟩))) 20 200 true).run Tryd.prog w = .ok (.tuple #[.iface 116 (.pointer (some ⟨r, 0, none⟩)), .bool true]) w := fun _ => by kernel_rfl
theorem Ext_cf : ∀ (args : Array Value) (w : World), (callFunc 143 args).run Tryd.prog w = .ok (.enter 143 args) w := fun _ _ => by kernel_rfl
theorem op_extN {r : Nat} {oid : ByteArray} {W : World} (hr : W.heap[r]? = some (.cells #[.string oid, .pointer none, .slice none 0 0] 125 (0, 0))) (hoid : oid.size ≤ 1000000) :
    Calls Tryd.prog 43 #[.iface 116 (.pointer (some ⟨r, 0, none⟩))] W (OpRes W (dExtN oid)) := by
  have HO := operation_of 116 143 (.pointer (some ⟨r, 0, none⟩)) (.agg #[.string oid, .pointer none, .slice none 0 0]) (pExtN oid) W (Ext_ta _) (fun U hU => Ext_m (blk_below hr hU)) Ext_cf
    (fun W1 hW q E n W2 hE tE hn hb => appendTo_ExtN oid hoid q W1.heap.size n E W2 hE tE hn) ((pExtN_fine oid hoid).ok (by decide))
  rw [tr_ExtN] at HO
  exact HO
theorem op_extV {r qv lo : Nat} {oid s : ByteArray} {W : World} (hr : W.heap[r]? = some (.cells #[.string oid, .pointer (some ⟨qv, 0, none⟩), .slice none 0 0] 125 (0, 0))) (hV : IsPk W lo (fun k => lo ≤ k ∧ k < W.heap.size) qv (prim 128 0 1 (strV s) (bytesOf s) ⟨#[]⟩)) (hlo : lo ≤ W.heap.size) (hoid : oid.size ≤ 1000000) (hs : s.size ≤ 1000000) :
    Calls Tryd.prog 43 #[.iface 116 (.pointer (some ⟨r, 0, none⟩))] W (OpRes W (dExtV oid s)) := by
  have HO := operation_of 116 143 (.pointer (some ⟨r, 0, none⟩)) (.agg #[.string oid, .pointer (some ⟨qv, 0, none⟩), .slice none 0 0]) (pExtV oid s) W (Ext_ta _) (fun U hU => Ext_m (blk_below hr hU)) Ext_cf
    (fun W1 hW q E n W2 hE tE hn hb => appendTo_ExtV oid s hoid hs q qv W1.heap.size lo n E W2 hE tE hn (((hV.mono (fun k hk => ⟨hk.1, Nat.lt_of_lt_of_le hk.2 hW.size⟩)).below hW).below hb) (Nat.le_trans hlo hW.size)) ((pExtV_fine oid s hoid hs).ok (by decide))
  rw [tr_ExtV] at HO
  exact HO

theorem neq_some (a : Addr) (n c : Nat) : ∀ W : World, (binOp .neq 24 (.slice (some a) n c) (.slice none 0 0)).run Tryd.prog W = .ok (.bool true) W := fun _ => by kernel_rfl
theorem neq_none (n c : Nat) : ∀ W : World, (binOp .neq 24 (.slice none n c) (.slice none 0 0)).run Tryd.prog W = .ok (.bool false) W := fun _ => by kernel_rfl
theorem strOf_size' (l : List Int) : (strOfNums l).size = l.length := by
  simp [strOfNums, ByteArray.size]
set_option maxHeartbeats 3200000 in
set_option maxRecDepth 100000 in
theorem iExtN_any (oid : ByteArray) (c : Nat) (w : World) (hoid : oid.size ≤ 1000000) :
    Calls Tryd.prog 25 #[.string oid, .slice none 0 c] w (OpRes w (dExtN oid)) := by
  have hne := neq_none 0 c
  obtain ⟨W0, hW0⟩ : ∃ W0, W0 = (w.alloc (.cells #[.int .i64 0, .int .i64 0, .bool false, .slice none 0 0, .slice none 0 0] 27)).alloc (.cells #[.string oid, .pointer none, .slice none 0 0] 125) := ⟨_, rfl⟩
  have hb0 : Below w.heap.size w W0 := by rw [hW0]; exact below_alloc (below_alloc (Below.refl _ _) _) _
  have hs0 : W0.heap.size = w.heap.size + 2 := by rw [hW0]; simp
  have hz0 : W0.heap[w.heap.size]? = some (.cells #[.int .i64 0, .int .i64 0, .bool false, .slice none 0 0, .slice none 0 0] 27 (0, 0)) := by rw [hW0]; exact blk_alloc (blk_new _ _) _
  have hr0 : W0.heap[w.heap.size + 1]? = some (.cells #[.string oid, .pointer none, .slice none 0 0] 125 (0, 0)) := by
    have := blk_new (w.alloc (.cells #[.int .i64 0, .int .i64 0, .bool false, .slice none 0 0, .slice none 0 0] 27)) (.cells #[.string oid, .pointer none, .slice none 0 0] 125)
    have e : (w.alloc (.cells #[.int .i64 0, .int .i64 0, .bool false, .slice none 0 0, .slice none 0 0] 27)).heap.size = w.heap.size + 1 := by simp
    rw [e, ← hW0] at this
    exact this
  have HB0 := Lib.hid hb0
  have HS0 := Lib.hid hs0
  have HZ0 := Lib.hid hz0
  have HR0 := Lib.hid hr0
  have HW0 := Lib.hid hW0
  have HN : Hid (oid.size ≤ 1000000) := Lib.hid hoid
  have HOP := Lib.hid (op_extN hr0 hoid)
  obtain ⟨y, hy⟩ : ∃ y, y = dExtN oid := ⟨_, rfl⟩
  rw [← hy] at HOP ⊢
  clear hy
  clear hb0 hs0 hz0 hr0 hW0 hoid
  go_enter Tryd.func25, Tryd.ntmps25
  go_wp2_with (first
    | (go_at_call 61; go_in)
    | (go_at_call 43
       rw [← HW0.out]
       with_reducible refine HOP.out.mono ?_
       rintro e W1 ⟨A3, c3, A4, c4, rfl, l3, h3, l4, h4, hB1⟩
       have HZ1 := Lib.hid (blk_below HZ0.out hB1)
       have HB1 := Lib.hid (HB0.out.trans (hB1.mono HB0.out.size))
       have HF := Lib.hid (And.intro l3 (And.intro h3 (And.intro l4 h4)))
       have k0 : W1.cell? ⟨w.heap.size, 0, none⟩ = some (.int .i64 0) := blk_cell HZ1.out 0
       have k1 : W1.cell? ⟨w.heap.size, 1, none⟩ = some (.int .i64 0) := blk_cell HZ1.out 1
       have k2 : W1.cell? ⟨w.heap.size, 2, none⟩ = some (.bool false) := blk_cell HZ1.out 2
       have k3 : W1.cell? ⟨w.heap.size, 3, none⟩ = some (.slice none 0 0) := blk_cell HZ1.out 3
       have k4 : W1.cell? ⟨w.heap.size, 4, none⟩ = some (.slice none 0 0) := blk_cell HZ1.out 4
       have kf0 := blk_frozen HZ1.out 0
       have kf1 := blk_frozen HZ1.out 1
       have kf2 := blk_frozen HZ1.out 2
       have kf3 := blk_frozen HZ1.out 3
       have kf4 := blk_frozen HZ1.out 4
       clear l3 h3 l4 h4 hB1))
  try simp only [Exit.inBlock, Exit.then]
  obtain ⟨h5, hend⟩ := req_end HB1.out (Nat.le_refl _) HB0.out.size (fun k hk => by have := HS0.out; omega) HZ1.out HF.out.1 HF.out.2.1 HF.out.2.2.1 HF.out.2.2.2 rfl
  exact bodyPost_ret (results_ct (p := 4) (u := 5) rfl _ _ _ _ _ _ _ rfl h5 Tryd.underlying27 rfl size_ip) rfl hend

set_option maxHeartbeats 3200000 in
set_option maxRecDepth 100000 in
theorem iExtV_any (oid : ByteArray) (xs : List Int) (a : Addr) (c : Nat) (w : World) (hC : (Kd.int .u8).C w (some a) xs.length xs) (hoid : oid.size ≤ 1000000) (hs : xs.length ≤ 1000000) :
    Calls Tryd.prog 25 #[.string oid, .slice (some a) xs.length c] w (OpRes w (dExtV oid (strOfNums xs))) := by
  have hne := neq_some a xs.length c
  obtain ⟨W0, hW0⟩ : ∃ W0, W0 = (w.alloc (.cells #[.int .i64 0, .int .i64 0, .bool false, .slice none 0 0, .slice none 0 0] 27)).alloc (.cells #[.string oid, .pointer none, .slice none 0 0] 125) := ⟨_, rfl⟩
  have hb0 : Below w.heap.size w W0 := by rw [hW0]; exact below_alloc (below_alloc (Below.refl _ _) _) _
  have hs0 : W0.heap.size = w.heap.size + 2 := by rw [hW0]; simp
  have hz0 : W0.heap[w.heap.size]? = some (.cells #[.int .i64 0, .int .i64 0, .bool false, .slice none 0 0, .slice none 0 0] 27 (0, 0)) := by rw [hW0]; exact blk_alloc (blk_new _ _) _
  have hr0 : W0.heap[w.heap.size + 1]? = some (.cells #[.string oid, .pointer none, .slice none 0 0] 125 (0, 0)) := by
    have := blk_new (w.alloc (.cells #[.int .i64 0, .int .i64 0, .bool false, .slice none 0 0, .slice none 0 0] 27)) (.cells #[.string oid, .pointer none, .slice none 0 0] 125)
    have e : (w.alloc (.cells #[.int .i64 0, .int .i64 0, .bool false, .slice none 0 0, .slice none 0 0] 27)).heap.size = w.heap.size + 1 := by simp
    rw [e, ← hW0] at this
    exact this
  have HB0 := Lib.hid hb0
  have HS0 := Lib.hid hs0
  have HZ0 := Lib.hid hz0
  have HR0 := Lib.hid hr0
  have HW0 := Lib.hid hW0
  have HN : Hid (oid.size ≤ 1000000) := Lib.hid hoid
  have hcv : (convert 24 9 (.slice (some a) xs.length c)).run Tryd.prog W0 = .ok (.string (strOfNums xs)) W0 := Kd.C_string Tryd.underlying24 Tryd.underlying5 Tryd.underlying9 (Kd.C_below hC hb0)
  obtain ⟨s, hss⟩ : ∃ s, s = strOfNums xs := ⟨_, rfl⟩
  have HSS : Hid (s.size ≤ 1000000) := Lib.hid (by rw [hss, strOf_size']; exact hs)
  rw [← hss, HW0.out] at hcv
  rw [← hss]
  have HOP : Hid (∀ (W : World) (qv lo : Nat), W.heap[w.heap.size + 1]? = some (.cells #[.string oid, .pointer (some ⟨qv, 0, none⟩), .slice none 0 0] 125 (0, 0)) → IsPk W lo (fun k => lo ≤ k ∧ k < W.heap.size) qv (prim 128 0 1 (strV s) (bytesOf s) ⟨#[]⟩) → lo ≤ W.heap.size → Calls Tryd.prog 43 #[.iface 116 (.pointer (some ⟨w.heap.size + 1, 0, none⟩))] W (OpRes W (dExtV oid s))) :=
    Lib.hid (fun W qv lo h1 h2 h3 => op_extV h1 h2 h3 HN.out HSS.out)
  obtain ⟨y, hy⟩ : ∃ y, y = dExtV oid s := ⟨_, rfl⟩
  rw [← hy] at HOP ⊢
  clear hss hC hs hy
  clear hb0 hs0 hz0 hr0 hW0 hoid
  go_enter Tryd.func25, Tryd.ntmps25
  go_wp2_with (first
    | (go_at_call 61; go_in)
    | (go_at_call 62
       rw [← HW0.out]
       with_reducible refine (string_at 128 0 1 s _ W0 (Nat.le_trans HSS.out (by decide))).mono ?_
       rintro e W2 ⟨qv, rfl, hA, hB⟩
       have HA2 := Lib.hid hA
       have HB2 := Lib.hid (HB0.out.trans (hB.mono HB0.out.size))
       have HC2 := Lib.hid hB
       have kr : W2.cell? ⟨w.heap.size + 1, 1, none⟩ = some (.pointer none) := blk_cell (blk_below HR0.out hB) 1
       have kfr := blk_frozen (blk_below HR0.out hB) 1
       clear hA hB)
    | (go_at_call 43
       obtain ⟨W3, hW3⟩ : ∃ W3, W3 = W2.setCell ⟨w.heap.size + 1, 1, none⟩ (.pointer (some ⟨qv, 0, none⟩)) := ⟨_, rfl⟩
       rw [← hW3]
       have hr3 : W3.heap[w.heap.size + 1]? = some (.cells #[.string oid, .pointer (some ⟨qv, 0, none⟩), .slice none 0 0] 125 (0, 0)) := by rw [hW3]; exact blk_set (blk_below HR0.out HC2.out) 1 _
       have ho3 : Only (fun i => i = w.heap.size + 1) W2 W3 := by rw [hW3]; exact (Only.refl (fun i => i = w.heap.size + 1) W2).setCell (a := ⟨w.heap.size + 1, 1, none⟩) (fun _ => rfl) _
       have hz3 : W3.heap[w.heap.size]? = some (.cells #[.int .i64 0, .int .i64 0, .bool false, .slice none 0 0, .slice none 0 0] 27 (0, 0)) := (ho3.block w.heap.size (by have := HB2.out.size; have := HC2.out.size; have := HS0.out; omega) (by omega)).trans (blk_below HZ0.out HC2.out)
       have hb3 : Below w.heap.size w W3 := HB2.out.trans (ho3.below HB2.out.size (fun i hi => by omega))
       have hpk : IsPk W3 W0.heap.size (fun k => W0.heap.size ≤ k ∧ k < W3.heap.size) qv (prim 128 0 1 (strV s) (bytesOf s) ⟨#[]⟩) := ((HA2.out.is.bound.only ho3 (fun k hk => by have := hk.2.1; have := HS0.out; omega)).bound).mono (fun k hk => ⟨hk.2.1, hk.2.2⟩)
       with_reducible refine (HOP.out W3 qv W0.heap.size hr3 hpk (Nat.le_trans HC2.out.size ho3.size)).mono ?_
       rintro e W1 ⟨A3, c3, A4, c4, rfl, l3, h3, l4, h4, hB1⟩
       have HZ1 := Lib.hid (blk_below hz3 hB1)
       have HSZ := Lib.hid (Nat.le_trans HC2.out.size ho3.size)
       have HB1 := Lib.hid (hb3.trans (hB1.mono hb3.size))
       have HF := Lib.hid (And.intro l3 (And.intro h3 (And.intro l4 h4)))
       have k0 : W1.cell? ⟨w.heap.size, 0, none⟩ = some (.int .i64 0) := blk_cell HZ1.out 0
       have k1 : W1.cell? ⟨w.heap.size, 1, none⟩ = some (.int .i64 0) := blk_cell HZ1.out 1
       have k2 : W1.cell? ⟨w.heap.size, 2, none⟩ = some (.bool false) := blk_cell HZ1.out 2
       have k3 : W1.cell? ⟨w.heap.size, 3, none⟩ = some (.slice none 0 0) := blk_cell HZ1.out 3
       have k4 : W1.cell? ⟨w.heap.size, 4, none⟩ = some (.slice none 0 0) := blk_cell HZ1.out 4
       have kf0 := blk_frozen HZ1.out 0
       have kf1 := blk_frozen HZ1.out 1
       have kf2 := blk_frozen HZ1.out 2
       have kf3 := blk_frozen HZ1.out 3
       have kf4 := blk_frozen HZ1.out 4
       clear l3 h3 l4 h4 hB1 hW3 hr3 ho3 hz3 hb3 hpk))
  try simp only [Exit.inBlock, Exit.then]
  obtain ⟨h5, hend⟩ := req_end HB1.out (Nat.le_refl _) (Nat.le_trans HB0.out.size HSZ.out) (fun k hk => by have := HS0.out; have := HSZ.out; omega) HZ1.out HF.out.1 HF.out.2.1 HF.out.2.2.1 HF.out.2.2.2 rfl
  exact bodyPost_ret (results_ct (p := 4) (u := 5) rfl _ _ _ _ _ _ _ rfl h5 Tryd.underlying27 rfl size_ip) rfl hend

end Go.Proofs.YtbmcpjkhnhbjdaaDoor.Ber

namespace Go.Proofs.YtbmcpjkhnhbjdaaDoor.Ber
open Go.RowKit Go.Proofs.YtbmcpjkhnhbjdaaDoorW.PrintWords Go.Proofs.YtbmcpjkhnhbjdaaDoor.PFnEncode Go.Proofs.YtbmcpjkhnhbjdaaDoor.Tree Go.Proofs.YtbmcpjkhnhbjdaaDoor.Buf Go.Proofs.YtbmcpjkhnhbjdaaDoor.Pk Go.Proofs.YtbmcpjkhnhbjdaaDoor.Within Go.Proofs.YtbmcpjkhnhbjdaaDoor.Num
set_option linter.unusedVariables false
set_option linter.unusedSimpArgs false

abbrev zz0 : ByteArray := ⟨#[49, 46, 51, 46, 54, 46, 49, 46, 52, 46, 49, 46, 52, 50, 48, 51, 46, 49, 46, 49, 49, 46, 49]⟩
abbrev zz1 : ByteArray := ⟨#[80, 97, 115, 115, 119, 111, 114, 100, 32, 77, 111, 100, 105, 102, 121, 32, 69, 120, 116, 101, 110, 100, 101, 100, 32, 79, 112, 101, 114, 97, 116, 105, 111, 110]⟩
abbrev zz2 : ByteArray := ⟨#[69, 120, 116, 101, 110, 100, 101, 100, 32, 82, 101, 113, 117, 101, 115, 116, 32, 78, 97, 109, 101, 58, 32, 80, 97, 115, 115, 119, 111, 114, 100, 32, 77, 111, 100, 105, 102, 121, 32, 79, 73, 68]⟩
abbrev zz3 : ByteArray := ⟨#[69, 120, 116, 101, 110, 100, 101, 100, 32, 82, 101, 113, 117, 101, 115, 116, 32, 86, 97, 108, 117, 101, 58, 32, 80, 97, 115, 115, 119, 111, 114, 100, 32, 77, 111, 100, 105, 102, 121, 32, 82, 101, 113, 117, 101, 115, 116]⟩
abbrev zz4 : ByteArray := ⟨#[80, 97, 115, 115, 119, 111, 114, 100, 32, 77, 111, 100, 105, 102, 121, 32, 82, 101, 113, 117, 101, 115, 116]⟩
abbrev zz5 : ByteArray := ⟨#[85, 115, 101, 114, 32, 73, 100, 101, 110, 116, 105, 116, 121]⟩
abbrev zz6 : ByteArray := ⟨#[79, 108, 100, 32, 80, 97, 115, 115, 119, 111, 114, 100]⟩
abbrev zz7 : ByteArray := ⟨#[78, 101, 119, 32, 80, 97, 115, 115, 119, 111, 114, 100]⟩
/-- the request as a packet -/
def pPassTTT (u : ByteArray) (o : ByteArray) (f : ByteArray) : Pk := (addK (addK (bare 64 32 23 .nilIface zz1) (prim 128 0 0 (strV zz0) (bytesOf zz0) zz2)) (addK (bare 128 0 1 .nilIface zz3) (addK (addK (addK (bare 0 32 16 .nilIface zz4) (prim 128 0 0 (strV u) (bytesOf u) zz5)) (prim 128 0 1 (strV o) (bytesOf o) zz6)) (prim 128 0 2 (strV f) (bytesOf f) zz7))))
theorem pPassTTT_fine (u : ByteArray) (o : ByteArray) (f : ByteArray) (hu : u.size ≤ 1000000) (ho : o.size ≤ 1000000) (hf : f.size ≤ 1000000) : Fine (pPassTTT u o f) 4000084 := (fine_add (fine_add (fine_bare _ _ _ _ _ (by decide) (by decide) (by decide) (Or.inr rfl) (by decide) (by decide)) (fine_str (n := 1000000) _ _ _ _ _ (by decide) (by decide) (by decide) (Or.inl rfl) (by decide) (by decide) (by decide)) (by decide)) (fine_add (fine_bare _ _ _ _ _ (by decide) (by decide) (by decide) (Or.inl rfl) (by decide) (by decide)) (fine_add (fine_add (fine_add (fine_bare _ _ _ _ _ (by decide) (by decide) (by decide) (Or.inr rfl) (by decide) (by decide)) (fine_str _ _ _ _ _ (by decide) (by decide) (by decide) (Or.inl rfl) (by decide) (by decide) hu) (by decide)) (fine_str _ _ _ _ _ (by decide) (by decide) (by decide) (Or.inl rfl) (by decide) (by decide) ho) (by decide)) (fine_str _ _ _ _ _ (by decide) (by decide) (by decide) (Or.inl rfl) (by decide) (by decide) hf) (by decide)) (by decide)) (by decide))
set_option maxHeartbeats 3200000 in
set_option maxRecDepth 100000 in
theorem appendTo_PassTTT (u : ByteArray) (o : ByteArray) (f : ByteArray) (hu : u.size ≤ 1000000) (ho : o.size ≤ 1000000) (hf : f.size ≤ 1000000) (eu : u.toList.isEmpty = false) (eo : o.toList.isEmpty = false) (ef : f.toList.isEmpty = false) (r base q n : Nat) (E : Pk) (w : World) (hE : At w w base q E) (tE : Top E n) (hn : n < 100000000000)
    (hr : w.heap[r]? = some (.cells #[.string u, .string o, .string f] 170 (0, 0))) (hrb : r < base) :
    Calls Tryd.prog 145 #[.pointer (some ⟨r, 0, none⟩), .pointer (some ⟨q, 0, none⟩)] w fun e w' => e = .returned .nilIface ∧ At w' w' base q (addK E (pPassTTT u o f)) ∧ Below base w w' := by
  have HE := Lib.hid hE
  have TE := Lib.hid tE
  have HR := Lib.hid hr
  have HRB := Lib.hid hrb
  have HT0 : Hid (Top (bare 64 32 23 .nilIface zz1) 0) := Lib.hid ((fine_bare _ _ _ _ _ (by decide) (by decide) (by decide) (Or.inr rfl) (by decide) (by decide))).1
  have HT1 : Hid (Top (prim 128 0 0 (strV zz0) (bytesOf zz0) zz2) 1000000) := Lib.hid ((fine_str (n := 1000000) _ _ _ _ _ (by decide) (by decide) (by decide) (Or.inl rfl) (by decide) (by decide) (by decide))).1
  have HT2 : Hid (Top (addK (bare 64 32 23 .nilIface zz1) (prim 128 0 0 (strV zz0) (bytesOf zz0) zz2)) 1000014) := Lib.hid ((fine_add (fine_bare _ _ _ _ _ (by decide) (by decide) (by decide) (Or.inr rfl) (by decide) (by decide)) (fine_str (n := 1000000) _ _ _ _ _ (by decide) (by decide) (by decide) (Or.inl rfl) (by decide) (by decide) (by decide)) (by decide))).1
  have HT3 : Hid (Top (bare 128 0 1 .nilIface zz3) 0) := Lib.hid ((fine_bare _ _ _ _ _ (by decide) (by decide) (by decide) (Or.inl rfl) (by decide) (by decide))).1
  have HT4 : Hid (Top (bare 0 32 16 .nilIface zz4) 0) := Lib.hid ((fine_bare _ _ _ _ _ (by decide) (by decide) (by decide) (Or.inr rfl) (by decide) (by decide))).1
  have HT5 : Hid (Top (prim 128 0 0 (strV u) (bytesOf u) zz5) 1000000) := Lib.hid ((fine_str _ _ _ _ _ (by decide) (by decide) (by decide) (Or.inl rfl) (by decide) (by decide) hu)).1
  have HT6 : Hid (Top (addK (bare 0 32 16 .nilIface zz4) (prim 128 0 0 (strV u) (bytesOf u) zz5)) 1000014) := Lib.hid ((fine_add (fine_bare _ _ _ _ _ (by decide) (by decide) (by decide) (Or.inr rfl) (by decide) (by decide)) (fine_str _ _ _ _ _ (by decide) (by decide) (by decide) (Or.inl rfl) (by decide) (by decide) hu) (by decide))).1
  have HT7 : Hid (Top (prim 128 0 1 (strV o) (bytesOf o) zz6) 1000000) := Lib.hid ((fine_str _ _ _ _ _ (by decide) (by decide) (by decide) (Or.inl rfl) (by decide) (by decide) ho)).1
  have HT8 : Hid (Top (addK (addK (bare 0 32 16 .nilIface zz4) (prim 128 0 0 (strV u) (bytesOf u) zz5)) (prim 128 0 1 (strV o) (bytesOf o) zz6)) 2000028) := Lib.hid ((fine_add (fine_add (fine_bare _ _ _ _ _ (by decide) (by decide) (by decide) (Or.inr rfl) (by decide) (by decide)) (fine_str _ _ _ _ _ (by decide) (by decide) (by decide) (Or.inl rfl) (by decide) (by decide) hu) (by decide)) (fine_str _ _ _ _ _ (by decide) (by decide) (by decide) (Or.inl rfl) (by decide) (by decide) ho) (by decide))).1
  have HT9 : Hid (Top (prim 128 0 2 (strV f) (bytesOf f) zz7) 1000000) := Lib.hid ((fine_str _ _ _ _ _ (by decide) (by decide) (by decide) (Or.inl rfl) (by decide) (by decide) hf)).1
  have HT10 : Hid (Top (addK (addK (addK (bare 0 32 16 .nilIface zz4) (prim 128 0 0 (strV u) (bytesOf u) zz5)) (prim 128 0 1 (strV o) (bytesOf o) zz6)) (prim 128 0 2 (strV f) (bytesOf f) zz7)) 3000042) := Lib.hid ((fine_add (fine_add (fine_add (fine_bare _ _ _ _ _ (by decide) (by decide) (by decide) (Or.inr rfl) (by decide) (by decide)) (fine_str _ _ _ _ _ (by decide) (by decide) (by decide) (Or.inl rfl) (by decide) (by decide) hu) (by decide)) (fine_str _ _ _ _ _ (by decide) (by decide) (by decide) (Or.inl rfl) (by decide) (by decide) ho) (by decide)) (fine_str _ _ _ _ _ (by decide) (by decide) (by decide) (Or.inl rfl) (by decide) (by decide) hf) (by decide))).1
  have HT11 : Hid (Top (addK (bare 128 0 1 .nilIface zz3) (addK (addK (addK (bare 0 32 16 .nilIface zz4) (prim 128 0 0 (strV u) (bytesOf u) zz5)) (prim 128 0 1 (strV o) (bytesOf o) zz6)) (prim 128 0 2 (strV f) (bytesOf f) zz7))) 3000056) := Lib.hid ((fine_add (fine_bare _ _ _ _ _ (by decide) (by decide) (by decide) (Or.inl rfl) (by decide) (by decide)) (fine_add (fine_add (fine_add (fine_bare _ _ _ _ _ (by decide) (by decide) (by decide) (Or.inr rfl) (by decide) (by decide)) (fine_str _ _ _ _ _ (by decide) (by decide) (by decide) (Or.inl rfl) (by decide) (by decide) hu) (by decide)) (fine_str _ _ _ _ _ (by decide) (by decide) (by decide) (Or.inl rfl) (by decide) (by decide) ho) (by decide)) (fine_str _ _ _ _ _ (by decide) (by decide) (by decide) (Or.inl rfl) (by decide) (by decide) hf) (by decide)) (by decide))).1
  have HT12 : Hid (Top (addK (addK (bare 64 32 23 .nilIface zz1) (prim 128 0 0 (strV zz0) (bytesOf zz0) zz2)) (addK (bare 128 0 1 .nilIface zz3) (addK (addK (addK (bare 0 32 16 .nilIface zz4) (prim 128 0 0 (strV u) (bytesOf u) zz5)) (prim 128 0 1 (strV o) (bytesOf o) zz6)) (prim 128 0 2 (strV f) (bytesOf f) zz7)))) 4000084) := Lib.hid ((fine_add (fine_add (fine_bare _ _ _ _ _ (by decide) (by decide) (by decide) (Or.inr rfl) (by decide) (by decide)) (fine_str (n := 1000000) _ _ _ _ _ (by decide) (by decide) (by decide) (Or.inl rfl) (by decide) (by decide) (by decide)) (by decide)) (fine_add (fine_bare _ _ _ _ _ (by decide) (by decide) (by decide) (Or.inl rfl) (by decide) (by decide)) (fine_add (fine_add (fine_add (fine_bare _ _ _ _ _ (by decide) (by decide) (by decide) (Or.inr rfl) (by decide) (by decide)) (fine_str _ _ _ _ _ (by decide) (by decide) (by decide) (Or.inl rfl) (by decide) (by decide) hu) (by decide)) (fine_str _ _ _ _ _ (by decide) (by decide) (by decide) (Or.inl rfl) (by decide) (by decide) ho) (by decide)) (fine_str _ _ _ _ _ (by decide) (by decide) (by decide) (Or.inl rfl) (by decide) (by decide) hf) (by decide)) (by decide)) (by decide))).1
  have HS : Hid (u.size ≤ 140737488355328 ∧ o.size ≤ 140737488355328 ∧ f.size ≤ 140737488355328 ∧ ByteArray.empty.size ≤ 140737488355328) := Lib.hid (⟨by omega, by omega, by omega, by decide⟩)
  clear hE tE hr hrb hu ho hf
  go_enter Tryd.func145, Tryd.ntmps145
  go_wp2_with (first
    | (go_at_call 87
       first
       | (with_reducible refine (encode_at 64 32 23 _ w).mono ?_
          rintro e W1 ⟨qp, rfl, hA, hB⟩
          have HAp_1 := Lib.hid hA
          have HZp : Hid (w.heap.size ≤ w.heap.size) := Lib.hid (Nat.le_refl _)
          have HB1 := Lib.hid (hB)
          clear hA hB)
       | (with_reducible refine (encode_at 128 0 1 _ W3).mono ?_
          rintro e W4 ⟨qv, rfl, hA, hB⟩
          have HAv_4 := Lib.hid hA
          have HLp_v := Lib.hid HAp_3.out.bel.size
          have HZv : Hid (w.heap.size ≤ W3.heap.size) := Lib.hid (HB3.out.size)
          have HAp_4 := Lib.hid (HAp_3.out.on hB)
          have HB4 := Lib.hid (HB3.out.trans (hB.mono HB3.out.size))
          clear hA hB)
       | (with_reducible refine (encode_at 0 32 16 _ W4).mono ?_
          rintro e W5 ⟨qs, rfl, hA, hB⟩
          have HAs_5 := Lib.hid hA
          have HLp_s := Lib.hid HAp_4.out.bel.size
          have HLv_s := Lib.hid HAv_4.out.bel.size
          have HZs : Hid (w.heap.size ≤ W4.heap.size) := Lib.hid (HB4.out.size)
          have HAp_5 := Lib.hid (HAp_4.out.on hB)
          have HAv_5 := Lib.hid (HAv_4.out.on hB)
          have HB5 := Lib.hid (HB4.out.trans (hB.mono HB4.out.size))
          have c5_0 : W5.cell? ⟨r, 0, none⟩ = some (.string u) := blk_cell (blk_below HR.out HB5.out) 0
          have c5_1 : W5.cell? ⟨r, 1, none⟩ = some (.string o) := blk_cell (blk_below HR.out HB5.out) 1
          have c5_2 : W5.cell? ⟨r, 2, none⟩ = some (.string f) := blk_cell (blk_below HR.out HB5.out) 2
          clear hA hB))
    | (go_at_call 62
       first
       | (with_reducible refine (string_at 128 0 0 zz0 _ W1 (by decide)).mono ?_
          rintro e W2 ⟨qc1, rfl, hA, hB⟩
          have HAc1_2 := Lib.hid hA
          have HLp_c1 := Lib.hid HAp_1.out.bel.size
          have HAp_2 := Lib.hid (HAp_1.out.on hB)
          have HB2 := Lib.hid (HB1.out.trans (hB.mono HB1.out.size))
          clear hA hB)
       | (with_reducible refine (string_at 128 0 0 u _ W5 HS.out.1).mono ?_
          rintro e W6 ⟨qc5, rfl, hA, hB⟩
          have HAc5_6 := Lib.hid hA
          have HLs_c5 := Lib.hid HAs_5.out.bel.size
          have HAp_6 := Lib.hid (HAp_5.out.on hB)
          have HAv_6 := Lib.hid (HAv_5.out.on hB)
          have HAs_6 := Lib.hid (HAs_5.out.on hB)
          have HB6 := Lib.hid (HB5.out.trans (hB.mono HB5.out.size))
          clear hA hB)
       | (with_reducible refine (string_at 128 0 1 o _ W7 HS.out.2.1).mono ?_
          rintro e W8 ⟨qc7, rfl, hA, hB⟩
          have HAc7_8 := Lib.hid hA
          have HLs_c7 := Lib.hid HAs_7.out.bel.size
          have HAp_8 := Lib.hid (HAp_7.out.on hB)
          have HAv_8 := Lib.hid (HAv_7.out.on hB)
          have HAs_8 := Lib.hid (HAs_7.out.on hB)
          have HB8 := Lib.hid (HB7.out.trans (hB.mono HB7.out.size))
          clear hA hB)
       | (with_reducible refine (string_at 128 0 2 f _ W9 HS.out.2.2.1).mono ?_
          rintro e W10 ⟨qc9, rfl, hA, hB⟩
          have HAc9_10 := Lib.hid hA
          have HLs_c9 := Lib.hid HAs_9.out.bel.size
          have HAp_10 := Lib.hid (HAp_9.out.on hB)
          have HAv_10 := Lib.hid (HAv_9.out.on hB)
          have HAs_10 := Lib.hid (HAs_9.out.on hB)
          have HB10 := Lib.hid (HB9.out.trans (hB.mono HB9.out.size))
          clear hA hB))
    | (go_at_call 93
       first
       | (with_reducible refine (app_at HAp_2.out HAc1_2.out HLp_c1.out HT0.out HT1.out (by decide) (by decide)).mono ?_
          rintro e W3 ⟨⟨u3_, rfl⟩, hA, hB⟩
          have HAp_3 := Lib.hid hA
          have HB3 := Lib.hid (HB2.out.trans (hB.mono HZp.out))
          clear hA hB)
       | (with_reducible refine (app_at HAs_6.out HAc5_6.out HLs_c5.out HT4.out HT5.out (by decide) (by decide)).mono ?_
          rintro e W7 ⟨⟨u7_, rfl⟩, hA, hB⟩
          have HAs_7 := Lib.hid hA
          have HAp_7 := Lib.hid (HAp_6.out.go hB HLp_s.out)
          have HAv_7 := Lib.hid (HAv_6.out.go hB HLv_s.out)
          have HB7 := Lib.hid (HB6.out.trans (hB.mono HZs.out))
          have c7_0 : W7.cell? ⟨r, 0, none⟩ = some (.string u) := blk_cell (blk_below HR.out HB7.out) 0
          have c7_1 : W7.cell? ⟨r, 1, none⟩ = some (.string o) := blk_cell (blk_below HR.out HB7.out) 1
          have c7_2 : W7.cell? ⟨r, 2, none⟩ = some (.string f) := blk_cell (blk_below HR.out HB7.out) 2
          clear hA hB)
       | (with_reducible refine (app_at HAs_8.out HAc7_8.out HLs_c7.out HT6.out HT7.out (by decide) (by decide)).mono ?_
          rintro e W9 ⟨⟨u9_, rfl⟩, hA, hB⟩
          have HAs_9 := Lib.hid hA
          have HAp_9 := Lib.hid (HAp_8.out.go hB HLp_s.out)
          have HAv_9 := Lib.hid (HAv_8.out.go hB HLv_s.out)
          have HB9 := Lib.hid (HB8.out.trans (hB.mono HZs.out))
          have c9_0 : W9.cell? ⟨r, 0, none⟩ = some (.string u) := blk_cell (blk_below HR.out HB9.out) 0
          have c9_1 : W9.cell? ⟨r, 1, none⟩ = some (.string o) := blk_cell (blk_below HR.out HB9.out) 1
          have c9_2 : W9.cell? ⟨r, 2, none⟩ = some (.string f) := blk_cell (blk_below HR.out HB9.out) 2
          clear hA hB)
       | (with_reducible refine (app_at HAs_10.out HAc9_10.out HLs_c9.out HT8.out HT9.out (by decide) (by decide)).mono ?_
          rintro e W11 ⟨⟨u11_, rfl⟩, hA, hB⟩
          have HAs_11 := Lib.hid hA
          have HAp_11 := Lib.hid (HAp_10.out.go hB HLp_s.out)
          have HAv_11 := Lib.hid (HAv_10.out.go hB HLv_s.out)
          have HB11 := Lib.hid (HB10.out.trans (hB.mono HZs.out))
          have c11_0 : W11.cell? ⟨r, 0, none⟩ = some (.string u) := blk_cell (blk_below HR.out HB11.out) 0
          have c11_1 : W11.cell? ⟨r, 1, none⟩ = some (.string o) := blk_cell (blk_below HR.out HB11.out) 1
          have c11_2 : W11.cell? ⟨r, 2, none⟩ = some (.string f) := blk_cell (blk_below HR.out HB11.out) 2
          clear hA hB)
       | (with_reducible refine (app_at HAv_11.out HAs_11.out HLv_s.out HT3.out HT10.out (by decide) (by decide)).mono ?_
          rintro e W12 ⟨⟨u12_, rfl⟩, hA, hB⟩
          have HAv_12 := Lib.hid hA
          have HAp_12 := Lib.hid (HAp_11.out.go hB HLp_v.out)
          have HB12 := Lib.hid (HB11.out.trans (hB.mono HZv.out))
          clear hA hB)
       | (with_reducible refine (app_at HAp_12.out HAv_12.out HLp_v.out HT2.out HT11.out (by decide) (by decide)).mono ?_
          rintro e W13 ⟨⟨u13_, rfl⟩, hA, hB⟩
          have HAp_13 := Lib.hid hA
          have HB13 := Lib.hid (HB12.out.trans (hB.mono HZp.out))
          clear hA hB)
       | (with_reducible refine (app_at (HE.out.on HB13.out) HAp_13.out HZp.out TE.out HT12.out (by omega) (by decide)).mono ?_
          rintro e W14 ⟨⟨u14_, rfl⟩, hA, hB⟩
          have HAE := Lib.hid hA
          have HBE := Lib.hid ((HB13.out.mono HE.out.le).trans hB)
          clear hA hB)))
  go_ret
  exact ⟨rfl, HAE.out, HBE.out⟩

/-- the request as data -/
def dPassTTT (u : ByteArray) (o : ByteArray) (f : ByteArray) : S27 := ⟨1, 23, true, [], [⟨2, 0, false, bytesOf zz0, []⟩, ⟨2, 1, false, pkBytes 0 16 true (pkBytes 2 0 false (bytesOf u) ++ pkBytes 2 1 false (bytesOf o) ++ pkBytes 2 2 false (bytesOf f)), []⟩]⟩
theorem tr_PassTTT (u : ByteArray) (o : ByteArray) (f : ByteArray) : trOf (pPassTTT u o f) = dPassTTT u o f := by
  unfold pPassTTT dPassTTT addK bare prim
  simp [trOf, trL]
theorem Pass_ta (r : Nat) : ∀ w : World, (Instr.typeAssert (.iface 126 (.pointer (some ⟨r, 0, none⟩))) 20 200 true).run Tryd.prog w = .ok (.tuple #[.iface 126 (.pointer (some ⟨r, 0, none⟩)), .bool true]) w := fun _ => by kernel_rfl
theorem Pass_m (r : Nat) : ∀ w : World, (method 366 126 (.pointer (some ⟨r, 0, none⟩)) "goldap/pub/goldap.appendTo").run Tryd.prog w = .ok (145, (.pointer (some ⟨r, 0, none⟩))) w := fun _ => by kernel_rfl
theorem Pass_cf : ∀ (args : Array Value) (w : World), (callFunc 145 args).run Tryd.prog w = .ok (.enter 145 args) w := fun _ _ => by kernel_rfl
set_option maxHeartbeats 3200000 in
set_option maxRecDepth 100000 in
theorem iPass_of (p : Pk) (d : S27) (u o f : ByteArray) (w : World) (htr : trOf p = d) (hok : okP p)
    (happ : ∀ W, W.heap[w.heap.size + 1]? = some (.cells #[.string u, .string o, .string f] 170 (0, 0)) → w.heap.size + 2 ≤ W.heap.size → Appends 145 (.pointer (some ⟨w.heap.size + 1, 0, none⟩)) p W) :
    Calls Tryd.prog 26 #[.string u, .string o, .string f] w (OpRes w d) := by
  obtain ⟨W0, hW0⟩ : ∃ W0, W0 = (w.alloc (.cells #[.int .i64 0, .int .i64 0, .bool false, .slice none 0 0, .slice none 0 0] 27)).alloc (.cells #[.string u, .string o, .string f] 170) := ⟨_, rfl⟩
  have hb0 : Below w.heap.size w W0 := by rw [hW0]; exact below_alloc (below_alloc (Below.refl _ _) _) _
  have hs0 : w.heap.size + 2 ≤ W0.heap.size := by rw [hW0]; simp
  have hz0 : W0.heap[w.heap.size]? = some (.cells #[.int .i64 0, .int .i64 0, .bool false, .slice none 0 0, .slice none 0 0] 27 (0, 0)) := by rw [hW0]; exact blk_alloc (blk_new _ _) _
  have hr0 : W0.heap[w.heap.size + 1]? = some (.cells #[.string u, .string o, .string f] 170 (0, 0)) := by
    have := blk_new (w.alloc (.cells #[.int .i64 0, .int .i64 0, .bool false, .slice none 0 0, .slice none 0 0] 27)) (.cells #[.string u, .string o, .string f] 170)
    have e : (w.alloc (.cells #[.int .i64 0, .int .i64 0, .bool false, .slice none 0 0, .slice none 0 0] 27)).heap.size = w.heap.size + 1 := by simp
    rw [e, ← hW0] at this
    exact this
  have HO := Lib.hid (operation_any 126 145 (.pointer (some ⟨w.heap.size + 1, 0, none⟩)) p W0 (Pass_ta _) (Pass_m _) Pass_cf
    (fun W hW => happ W (blk_below hr0 hW) (by have := hW.size; omega)) hok)
  rw [htr] at HO
  obtain ⟨y, hy⟩ : ∃ y, y = d := ⟨_, rfl⟩
  rw [← hy] at HO ⊢
  have HB0 := Lib.hid hb0
  have HS0 := Lib.hid hs0
  have HZ0 := Lib.hid hz0
  have HW0 := Lib.hid hW0
  clear hy hb0 hs0 hz0 hr0 hW0 htr hok happ
  go_enter Tryd.func26, Tryd.ntmps26
  go_wp2_with (first
    | (go_at_call 63; go_in)
    | (go_at_call 43
       rw [← HW0.out]
       with_reducible refine HO.out.mono ?_
       rintro e W1 ⟨A3, c3, A4, c4, rfl, l3, h3, l4, h4, hB1⟩
       have HZ1 := Lib.hid (blk_below HZ0.out hB1)
       have HB1 := Lib.hid (HB0.out.trans (hB1.mono HB0.out.size))
       have HF := Lib.hid (And.intro l3 (And.intro h3 (And.intro l4 h4)))
       have k0 : W1.cell? ⟨w.heap.size, 0, none⟩ = some (.int .i64 0) := blk_cell HZ1.out 0
       have k1 : W1.cell? ⟨w.heap.size, 1, none⟩ = some (.int .i64 0) := blk_cell HZ1.out 1
       have k2 : W1.cell? ⟨w.heap.size, 2, none⟩ = some (.bool false) := blk_cell HZ1.out 2
       have k3 : W1.cell? ⟨w.heap.size, 3, none⟩ = some (.slice none 0 0) := blk_cell HZ1.out 3
       have k4 : W1.cell? ⟨w.heap.size, 4, none⟩ = some (.slice none 0 0) := blk_cell HZ1.out 4
       have kf0 := blk_frozen HZ1.out 0
       have kf1 := blk_frozen HZ1.out 1
       have kf2 := blk_frozen HZ1.out 2
       have kf3 := blk_frozen HZ1.out 3
       have kf4 := blk_frozen HZ1.out 4
       clear l3 h3 l4 h4 hB1 HO))
  try simp only [Exit.inBlock, Exit.then]
  obtain ⟨h5, hend⟩ := req_end HB1.out (Nat.le_refl _) HB0.out.size (fun k hk => by have := HS0.out; omega) HZ1.out HF.out.1 HF.out.2.1 HF.out.2.2.1 HF.out.2.2.2 rfl
  exact bodyPost_ret (results_ct (p := 6) (u := 7) rfl _ _ _ _ _ _ _ rfl h5 Tryd.underlying27 rfl size_ip) rfl hend

theorem iPassTTT_any (u o f : ByteArray) (w : World) (hu : u.size ≤ 1000000) (ho : o.size ≤ 1000000) (hf : f.size ≤ 1000000) (eu : u.toList.isEmpty = false) (eo : o.toList.isEmpty = false) (ef : f.toList.isEmpty = false) :
    Calls Tryd.prog 26 #[.string u, .string o, .string f] w (OpRes w (dPassTTT u o f)) :=
  iPass_of _ _ u o f w (tr_PassTTT u o f) ((pPassTTT_fine u o f hu ho hf).ok (by decide)) (fun W hr hs q E n W' hE tE hn hb => appendTo_PassTTT u o f hu ho hf eu eo ef (w.heap.size + 1) W.heap.size q n E W' hE tE hn (blk_below hr hb) (by omega))

/-- the request as a packet -/
def pPassTTE (u : ByteArray) (o : ByteArray) (f : ByteArray) : Pk := (addK (addK (bare 64 32 23 .nilIface zz1) (prim 128 0 0 (strV zz0) (bytesOf zz0) zz2)) (addK (bare 128 0 1 .nilIface zz3) (addK (addK (bare 0 32 16 .nilIface zz4) (prim 128 0 0 (strV u) (bytesOf u) zz5)) (prim 128 0 1 (strV o) (bytesOf o) zz6))))
theorem pPassTTE_fine (u : ByteArray) (o : ByteArray) (f : ByteArray) (hu : u.size ≤ 1000000) (ho : o.size ≤ 1000000) (hf : f.size ≤ 1000000) : Fine (pPassTTE u o f) 3000070 := (fine_add (fine_add (fine_bare _ _ _ _ _ (by decide) (by decide) (by decide) (Or.inr rfl) (by decide) (by decide)) (fine_str (n := 1000000) _ _ _ _ _ (by decide) (by decide) (by decide) (Or.inl rfl) (by decide) (by decide) (by decide)) (by decide)) (fine_add (fine_bare _ _ _ _ _ (by decide) (by decide) (by decide) (Or.inl rfl) (by decide) (by decide)) (fine_add (fine_add (fine_bare _ _ _ _ _ (by decide) (by decide) (by decide) (Or.inr rfl) (by decide) (by decide)) (fine_str _ _ _ _ _ (by decide) (by decide) (by decide) (Or.inl rfl) (by decide) (by decide) hu) (by decide)) (fine_str _ _ _ _ _ (by decide) (by decide) (by decide) (Or.inl rfl) (by decide) (by decide) ho) (by decide)) (by decide)) (by decide))
set_option maxHeartbeats 3200000 in
set_option maxRecDepth 100000 in
theorem appendTo_PassTTE (u : ByteArray) (o : ByteArray) (f : ByteArray) (hu : u.size ≤ 1000000) (ho : o.size ≤ 1000000) (hf : f.size ≤ 1000000) (eu : u.toList.isEmpty = false) (eo : o.toList.isEmpty = false) (ef : f.toList.isEmpty = true) (r base q n : Nat) (E : Pk) (w : World) (hE : At w w base q E) (tE : Top E n) (hn : n < 100000000000)
    (hr : w.heap[r]? = some (.cells #[.string u, .string o, .string f] 170 (0, 0))) (hrb : r < base) :
    Calls Tryd.prog 145 #[.pointer (some ⟨r, 0, none⟩), .pointer (some ⟨q, 0, none⟩)] w fun e w' => e = .returned .nilIface ∧ At w' w' base q (addK E (pPassTTE u o f)) ∧ Below base w w' := by
  have HE := Lib.hid hE
  have TE := Lib.hid tE
  have HR := Lib.hid hr
  have HRB := Lib.hid hrb
  have HT0 : Hid (Top (bare 64 32 23 .nilIface zz1) 0) := Lib.hid ((fine_bare _ _ _ _ _ (by decide) (by decide) (by decide) (Or.inr rfl) (by decide) (by decide))).1
  have HT1 : Hid (Top (prim 128 0 0 (strV zz0) (bytesOf zz0) zz2) 1000000) := Lib.hid ((fine_str (n := 1000000) _ _ _ _ _ (by decide) (by decide) (by decide) (Or.inl rfl) (by decide) (by decide) (by decide))).1
  have HT2 : Hid (Top (addK (bare 64 32 23 .nilIface zz1) (prim 128 0 0 (strV zz0) (bytesOf zz0) zz2)) 1000014) := Lib.hid ((fine_add (fine_bare _ _ _ _ _ (by decide) (by decide) (by decide) (Or.inr rfl) (by decide) (by decide)) (fine_str (n := 1000000) _ _ _ _ _ (by decide) (by decide) (by decide) (Or.inl rfl) (by decide) (by decide) (by decide)) (by decide))).1
  have HT3 : Hid (Top (bare 128 0 1 .nilIface zz3) 0) := Lib.hid ((fine_bare _ _ _ _ _ (by decide) (by decide) (by decide) (Or.inl rfl) (by decide) (by decide))).1
  have HT4 : Hid (Top (bare 0 32 16 .nilIface zz4) 0) := Lib.hid ((fine_bare _ _ _ _ _ (by decide) (by decide) (by decide) (Or.inr rfl) (by decide) (by decide))).1
  have HT5 : Hid (Top (prim 128 0 0 (strV u) (bytesOf u) zz5) 1000000) := Lib.hid ((fine_str _ _ _ _ _ (by decide) (by decide) (by decide) (Or.inl rfl) (by decide) (by decide) hu)).1
  have HT6 : Hid (Top (addK (bare 0 32 16 .nilIface zz4) (prim 128 0 0 (strV u) (bytesOf u) zz5)) 1000014) := Lib.hid ((fine_add (fine_bare _ _ _ _ _ (by decide) (by decide) (by decide) (Or.inr rfl) (by decide) (by decide)) (fine_str _ _ _ _ _ (by decide) (by decide) (by decide) (Or.inl rfl) (by decide) (by decide) hu) (by decide))).1
  have HT7 : Hid (Top (prim 128 0 1 (strV o) (bytesOf o) zz6) 1000000) := Lib.hid ((fine_str _ _ _ _ _ (by decide) (by decide) (by decide) (Or.inl rfl) (by decide) (by decide) ho)).1
  have HT8 : Hid (Top (addK (addK (bare 0 32 16 .nilIface zz4) (prim 128 0 0 (strV u) (bytesOf u) zz5)) (prim 128 0 1 (strV o) (bytesOf o) zz6)) 2000028) := Lib.hid ((fine_add (fine_add (fine_bare _ _ _ _ _ (by decide) (by decide) (by decide) (Or.inr rfl) (by decide) (by decide)) (fine_str _ _ _ _ _ (by decide) (by decide) (by decide) (Or.inl rfl) (by decide) (by decide) hu) (by decide)) (fine_str _ _ _ _ _ (by decide) (by decide) (by decide) (Or.inl rfl) (by decide) (by decide) ho) (by decide))).1
  have HT9 : Hid (Top (addK (bare 128 0 1 .nilIface zz3) (addK (addK (bare 0 32 16 .nilIface zz4) (prim 128 0 0 (strV u) (bytesOf u) zz5)) (prim 128 0 1 (strV o) (bytesOf o) zz6))) 2000042) := Lib.hid ((fine_add (fine_bare _ _ _ _ _ (by decide) (by decide) (by decide) (Or.inl rfl) (by decide) (by decide)) (fine_add (fine_add (fine_bare _ _ _ _ _ (by decide) (by decide) (by decide) (Or.inr rfl) (by decide) (by decide)) (fine_str _ _ _ _ _ (by decide) (by decide) (by decide) (Or.inl rfl) (by decide) (by decide) hu) (by decide)) (fine_str _ _ _ _ _ (by decide) (by decide) (by decide) (Or.inl rfl) (by decide) (by decide) ho) (by decide)) (by decide))).1
  have HT10 : Hid (Top (addK (addK (bare 64 32 23 .nilIface zz1) (prim 128 0 0 (strV zz0) (bytesOf zz0) zz2)) (addK (bare 128 0 1 .nilIface zz3) (addK (addK (bare 0 32 16 .nilIface zz4) (prim 128 0 0 (strV u) (bytesOf u) zz5)) (prim 128 0 1 (strV o) (bytesOf o) zz6)))) 3000070) := Lib.hid ((fine_add (fine_add (fine_bare _ _ _ _ _ (by decide) (by decide) (by decide) (Or.inr rfl) (by decide) (by decide)) (fine_str (n := 1000000) _ _ _ _ _ (by decide) (by decide) (by decide) (Or.inl rfl) (by decide) (by decide) (by decide)) (by decide)) (fine_add (fine_bare _ _ _ _ _ (by decide) (by decide) (by decide) (Or.inl rfl) (by decide) (by decide)) (fine_add (fine_add (fine_bare _ _ _ _ _ (by decide) (by decide) (by decide) (Or.inr rfl) (by decide) (by decide)) (fine_str _ _ _ _ _ (by decide) (by decide) (by decide) (Or.inl rfl) (by decide) (by decide) hu) (by decide)) (fine_str _ _ _ _ _ (by decide) (by decide) (by decide) (Or.inl rfl) (by decide) (by decide) ho) (by decide)) (by decide)) (by decide))).1
  have HS : Hid (u.size ≤ 140737488355328 ∧ o.size ≤ 140737488355328 ∧ f.size ≤ 140737488355328 ∧ ByteArray.empty.size ≤ 140737488355328) := Lib.hid (⟨by omega, by omega, by omega, by decide⟩)
  clear hE tE hr hrb hu ho hf
  go_enter Tryd.func145, Tryd.ntmps145
  go_wp2_with (first
    | (go_at_call 87
       first
       | (with_reducible refine (encode_at 64 32 23 _ w).mono ?_
          rintro e W1 ⟨qp, rfl, hA, hB⟩
          have HAp_1 := Lib.hid hA
          have HZp : Hid (w.heap.size ≤ w.heap.size) := Lib.hid (Nat.le_refl _)
          have HB1 := Lib.hid (hB)
          clear hA hB)
       | (with_reducible refine (encode_at 128 0 1 _ W3).mono ?_
          rintro e W4 ⟨qv, rfl, hA, hB⟩
          have HAv_4 := Lib.hid hA
          have HLp_v := Lib.hid HAp_3.out.bel.size
          have HZv : Hid (w.heap.size ≤ W3.heap.size) := Lib.hid (HB3.out.size)
          have HAp_4 := Lib.hid (HAp_3.out.on hB)
          have HB4 := Lib.hid (HB3.out.trans (hB.mono HB3.out.size))
          clear hA hB)
       | (with_reducible refine (encode_at 0 32 16 _ W4).mono ?_
          rintro e W5 ⟨qs, rfl, hA, hB⟩
          have HAs_5 := Lib.hid hA
          have HLp_s := Lib.hid HAp_4.out.bel.size
          have HLv_s := Lib.hid HAv_4.out.bel.size
          have HZs : Hid (w.heap.size ≤ W4.heap.size) := Lib.hid (HB4.out.size)
          have HAp_5 := Lib.hid (HAp_4.out.on hB)
          have HAv_5 := Lib.hid (HAv_4.out.on hB)
          have HB5 := Lib.hid (HB4.out.trans (hB.mono HB4.out.size))
          have c5_0 : W5.cell? ⟨r, 0, none⟩ = some (.string u) := blk_cell (blk_below HR.out HB5.out) 0
          have c5_1 : W5.cell? ⟨r, 1, none⟩ = some (.string o) := blk_cell (blk_below HR.out HB5.out) 1
          have c5_2 : W5.cell? ⟨r, 2, none⟩ = some (.string f) := blk_cell (blk_below HR.out HB5.out) 2
          clear hA hB))
    | (go_at_call 62
       first
       | (with_reducible refine (string_at 128 0 0 zz0 _ W1 (by decide)).mono ?_
          rintro e W2 ⟨qc1, rfl, hA, hB⟩
          have HAc1_2 := Lib.hid hA
          have HLp_c1 := Lib.hid HAp_1.out.bel.size
          have HAp_2 := Lib.hid (HAp_1.out.on hB)
          have HB2 := Lib.hid (HB1.out.trans (hB.mono HB1.out.size))
          clear hA hB)
       | (with_reducible refine (string_at 128 0 0 u _ W5 HS.out.1).mono ?_
          rintro e W6 ⟨qc5, rfl, hA, hB⟩
          have HAc5_6 := Lib.hid hA
          have HLs_c5 := Lib.hid HAs_5.out.bel.size
          have HAp_6 := Lib.hid (HAp_5.out.on hB)
          have HAv_6 := Lib.hid (HAv_5.out.on hB)
          have HAs_6 := Lib.hid (HAs_5.out.on hB)
          have HB6 := Lib.hid (HB5.out.trans (hB.mono HB5.out.size))
          clear hA hB)
       | (with_reducible refine (string_at 128 0 1 o _ W7 HS.out.2.1).mono ?_
          rintro e W8 ⟨qc7, rfl, hA, hB⟩
          have HAc7_8 := Lib.hid hA
          have HLs_c7 := Lib.hid HAs_7.out.bel.size
          have HAp_8 := Lib.hid (HAp_7.out.on hB)
          have HAv_8 := Lib.hid (HAv_7.out.on hB)
          have HAs_8 := Lib.hid (HAs_7.out.on hB)
          have HB8 := Lib.hid (HB7.out.trans (hB.mono HB7.out.size))
          clear hA hB))
    | (go_at_call 93
       first
       | (with_reducible refine (app_at HAp_2.out HAc1_2.out HLp_c1.out HT0.out HT1.out (by decide) (by decide)).mono ?_
          rintro e W3 ⟨⟨u3_, rfl⟩, hA, hB⟩
          have HAp_3 := Lib.hid hA
          have HB3 := Lib.hid (HB2.out.trans (hB.mono HZp.out))
          clear hA hB)
       | (with_reducible refine (app_at HAs_6.out HAc5_6.out HLs_c5.out HT4.out HT5.out (by decide) (by decide)).mono ?_
          rintro e W7 ⟨⟨u7_, rfl⟩, hA, hB⟩
          have HAs_7 := Lib.hid hA
          have HAp_7 := Lib.hid (HAp_6.out.go hB HLp_s.out)
          have HAv_7 := Lib.hid (HAv_6.out.go hB HLv_s.out)
          have HB7 := Lib.hid (HB6.out.trans (hB.mono HZs.out))
          have c7_0 : W7.cell? ⟨r, 0, none⟩ = some (.string u) := blk_cell (blk_below HR.out HB7.out) 0
          have c7_1 : W7.cell? ⟨r, 1, none⟩ = some (.string o) := blk_cell (blk_below HR.out HB7.out) 1
          have c7_2 : W7.cell? ⟨r, 2, none⟩ = some (.string f) := blk_cell (blk_below HR.out HB7.out) 2
          clear hA hB)
       | (with_reducible refine (app_at HAs_8.out HAc7_8.out HLs_c7.out HT6.out HT7.out (by decide) (by decide)).mono ?_
          rintro e W9 ⟨⟨u9_, rfl⟩, hA, hB⟩
          have HAs_9 := Lib.hid hA
          have HAp_9 := Lib.hid (HAp_8.out.go hB HLp_s.out)
          have HAv_9 := Lib.hid (HAv_8.out.go hB HLv_s.out)
          have HB9 := Lib.hid (HB8.out.trans (hB.mono HZs.out))
          have c9_0 : W9.cell? ⟨r, 0, none⟩ = some (.string u) := blk_cell (blk_below HR.out HB9.out) 0
          have c9_1 : W9.cell? ⟨r, 1, none⟩ = some (.string o) := blk_cell (blk_below HR.out HB9.out) 1
          have c9_2 : W9.cell? ⟨r, 2, none⟩ = some (.string f) := blk_cell (blk_below HR.out HB9.out) 2
          clear hA hB)
       | (with_reducible refine (app_at HAv_9.out HAs_9.out HLv_s.out HT3.out HT8.out (by decide) (by decide)).mono ?_
          rintro e W10 ⟨⟨u10_, rfl⟩, hA, hB⟩
          have HAv_10 := Lib.hid hA
          have HAp_10 := Lib.hid (HAp_9.out.go hB HLp_v.out)
          have HB10 := Lib.hid (HB9.out.trans (hB.mono HZv.out))
          clear hA hB)
       | (with_reducible refine (app_at HAp_10.out HAv_10.out HLp_v.out HT2.out HT9.out (by decide) (by decide)).mono ?_
          rintro e W11 ⟨⟨u11_, rfl⟩, hA, hB⟩
          have HAp_11 := Lib.hid hA
          have HB11 := Lib.hid (HB10.out.trans (hB.mono HZp.out))
          clear hA hB)
       | (with_reducible refine (app_at (HE.out.on HB11.out) HAp_11.out HZp.out TE.out HT10.out (by omega) (by decide)).mono ?_
          rintro e W12 ⟨⟨u12_, rfl⟩, hA, hB⟩
          have HAE := Lib.hid hA
          have HBE := Lib.hid ((HB11.out.mono HE.out.le).trans hB)
          clear hA hB)))
  go_ret
  exact ⟨rfl, HAE.out, HBE.out⟩

/-- the request as data -/
def dPassTTE (u : ByteArray) (o : ByteArray) (f : ByteArray) : S27 := ⟨1, 23, true, [], [⟨2, 0, false, bytesOf zz0, []⟩, ⟨2, 1, false, pkBytes 0 16 true (pkBytes 2 0 false (bytesOf u) ++ pkBytes 2 1 false (bytesOf o)), []⟩]⟩
theorem tr_PassTTE (u : ByteArray) (o : ByteArray) (f : ByteArray) : trOf (pPassTTE u o f) = dPassTTE u o f := by
  unfold pPassTTE dPassTTE addK bare prim
  simp [trOf, trL]
theorem iPassTTE_any (u o f : ByteArray) (w : World) (hu : u.size ≤ 1000000) (ho : o.size ≤ 1000000) (hf : f.size ≤ 1000000) (eu : u.toList.isEmpty = false) (eo : o.toList.isEmpty = false) (ef : f.toList.isEmpty = true) :
    Calls Tryd.prog 26 #[.string u, .string o, .string f] w (OpRes w (dPassTTE u o f)) :=
  iPass_of _ _ u o f w (tr_PassTTE u o f) ((pPassTTE_fine u o f hu ho hf).ok (by decide)) (fun W hr hs q E n W' hE tE hn hb => appendTo_PassTTE u o f hu ho hf eu eo ef (w.heap.size + 1) W.heap.size q n E W' hE tE hn (blk_below hr hb) (by omega))

/-- the request as a packet -/
def pPassTET (u : ByteArray) (o : ByteArray) (f : ByteArray) : Pk := (addK (addK (bare 64 32 23 .nilIface zz1) (prim 128 0 0 (strV zz0) (bytesOf zz0) zz2)) (addK (bare 128 0 1 .nilIface zz3) (addK (addK (bare 0 32 16 .nilIface zz4) (prim 128 0 0 (strV u) (bytesOf u) zz5)) (prim 128 0 2 (strV f) (bytesOf f) zz7))))
theorem pPassTET_fine (u : ByteArray) (o : ByteArray) (f : ByteArray) (hu : u.size ≤ 1000000) (ho : o.size ≤ 1000000) (hf : f.size ≤ 1000000) : Fine (pPassTET u o f) 3000070 := (fine_add (fine_add (fine_bare _ _ _ _ _ (by decide) (by decide) (by decide) (Or.inr rfl) (by decide) (by decide)) (fine_str (n := 1000000) _ _ _ _ _ (by decide) (by decide) (by decide) (Or.inl rfl) (by decide) (by decide) (by decide)) (by decide)) (fine_add (fine_bare _ _ _ _ _ (by decide) (by decide) (by decide) (Or.inl rfl) (by decide) (by decide)) (fine_add (fine_add (fine_bare _ _ _ _ _ (by decide) (by decide) (by decide) (Or.inr rfl) (by decide) (by decide)) (fine_str _ _ _ _ _ (by decide) (by decide) (by decide) (Or.inl rfl) (by decide) (by decide) hu) (by decide)) (fine_str _ _ _ _ _ (by decide) (by decide) (by decide) (Or.inl rfl) (by decide) (by decide) hf) (by decide)) (by decide)) (by decide))
set_option maxHeartbeats 3200000 in
set_option maxRecDepth 100000 in
theorem appendTo_PassTET (u : ByteArray) (o : ByteArray) (f : ByteArray) (hu : u.size ≤ 1000000) (ho : o.size ≤ 1000000) (hf : f.size ≤ 1000000) (eu : u.toList.isEmpty = false) (eo : o.toList.isEmpty = true) (ef : f.toList.isEmpty = false) (r base q n : Nat) (E : Pk) (w : World) (hE : At w w base q E) (tE : Top E n) (hn : n < 100000000000)
    (hr : w.heap[r]? = some (.cells #[.string u, .string o, .string f] 170 (0, 0))) (hrb : r < base) :
    Calls Tryd.prog 145 #[.pointer (some ⟨r, 0, none⟩), .pointer (some ⟨q, 0, none⟩)] w fun e w' => e = .returned .nilIface ∧ At w' w' base q (addK E (pPassTET u o f)) ∧ Below base w w' := by
  have HE := Lib.hid hE
  have TE := Lib.hid tE
  have HR := Lib.hid hr
  have HRB := Lib.hid hrb
  have HT0 : Hid (Top (bare 64 32 23 .nilIface zz1) 0) := Lib.hid ((fine_bare _ _ _ _ _ (by decide) (by decide) (by decide) (Or.inr rfl) (by decide) (by decide))).1
  have HT1 : Hid (Top (prim 128 0 0 (strV zz0) (bytesOf zz0) zz2) 1000000) := Lib.hid ((fine_str (n := 1000000) _ _ _ _ _ (by decide) (by decide) (by decide) (Or.inl rfl) (by decide) (by decide) (by decide))).1
  have HT2 : Hid (Top (addK (bare 64 32 23 .nilIface zz1) (prim 128 0 0 (strV zz0) (bytesOf zz0) zz2)) 1000014) := Lib.hid ((fine_add (fine_bare _ _ _ _ _ (by decide) (by decide) (by decide) (Or.inr rfl) (by decide) (by decide)) (fine_str (n := 1000000) _ _ _ _ _ (by decide) (by decide) (by decide) (Or.inl rfl) (by decide) (by decide) (by decide)) (by decide))).1
  have HT3 : Hid (Top (bare 128 0 1 .nilIface zz3) 0) := Lib.hid ((fine_bare _ _ _ _ _ (by decide) (by decide) (by decide) (Or.inl rfl) (by decide) (by decide))).1
  have HT4 : Hid (Top (bare 0 32 16 .nilIface zz4) 0) := Lib.hid ((fine_bare _ _ _ _ _ (by decide) (by decide) (by decide) (Or.inr rfl) (by decide) (by decide))).1
  have HT5 : Hid (Top (prim 128 0 0 (strV u) (bytesOf u) zz5) 1000000) := Lib.hid ((fine_str _ _ _ _ _ (by decide) (by decide) (by decide) (Or.inl rfl) (by decide) (by decide) hu)).1
  have HT6 : Hid (Top (addK (bare 0 32 16 .nilIface zz4) (prim 128 0 0 (strV u) (bytesOf u) zz5)) 1000014) := Lib.hid ((fine_add (fine_bare _ _ _ _ _ (by decide) (by decide) (by decide) (Or.inr rfl) (by decide) (by decide)) (fine_str _ _ _ _ _ (by decide) (by decide) (by decide) (Or.inl rfl) (by decide) (by decide) hu) (by decide))).1
  have HT7 : Hid (Top (prim 128 0 2 (strV f) (bytesOf f) zz7) 1000000) := Lib.hid ((fine_str _ _ _ _ _ (by decide) (by decide) (by decide) (Or.inl rfl) (by decide) (by decide) hf)).1
  have HT8 : Hid (Top (addK (addK (bare 0 32 16 .nilIface zz4) (prim 128 0 0 (strV u) (bytesOf u) zz5)) (prim 128 0 2 (strV f) (bytesOf f) zz7)) 2000028) := Lib.hid ((fine_add (fine_add (fine_bare _ _ _ _ _ (by decide) (by decide) (by decide) (Or.inr rfl) (by decide) (by decide)) (fine_str _ _ _ _ _ (by decide) (by decide) (by decide) (Or.inl rfl) (by decide) (by decide) hu) (by decide)) (fine_str _ _ _ _ _ (by decide) (by decide) (by decide) (Or.inl rfl) (by decide) (by decide) hf) (by decide))).1
  have HT9 : Hid (Top (addK (bare 128 0 1 .nilIface zz3) (addK (addK (bare 0 32 16 .nilIface zz4) (prim 128 0 0 (strV u) (bytesOf u) zz5)) (prim 128 0 2 (strV f) (bytesOf f) zz7))) 2000042) := Lib.hid ((fine_add (fine_bare _ _ _ _ _ (by decide) (by decide) (by decide) (Or.inl rfl) (by decide) (by decide)) (fine_add (fine_add (fine_bare _ _ _ _ _ (by decide) (by decide) (by decide) (Or.inr rfl) (by decide) (by decide)) (fine_str _ _ _ _ _ (by decide) (by decide) (by decide) (Or.inl rfl) (by decide) (by decide) hu) (by decide)) (fine_str _ _ _ _ _ (by decide) (by decide) (by decide) (Or.inl rfl) (by decide) (by decide) hf) (by decide)) (by decide))).1
  have HT10 : Hid (Top (addK (addK (bare 64 32 23 .nilIface zz1) (prim 128 0 0 (strV zz0) (bytesOf zz0) zz2)) (addK (bare 128 0 1 .nilIface zz3) (addK (addK (bare 0 32 16 .nilIface zz4) (prim 128 0 0 (strV u) (bytesOf u) zz5)) (prim 128 0 2 (strV f) (bytesOf f) zz7)))) 3000070) := Lib.hid ((fine_add (fine_add (fine_bare _ _ _ _ _ (by decide) (by decide) (by decide) (Or.inr rfl) (by decide) (by decide)) (fine_str (n := 1000000) _ _ _ _ _ (by decide) (by decide) (by decide) (Or.inl rfl) (by decide) (by decide) (by decide)) (by decide)) (fine_add (fine_bare _ _ _ _ _ (by decide) (by decide) (by decide) (Or.inl rfl) (by decide) (by decide)) (fine_add (fine_add (fine_bare _ _ _ _ _ (by decide) (by decide) (by decide) (Or.inr rfl) (by decide) (by decide)) (fine_str _ _ _ _ _ (by decide) (by decide) (by decide) (Or.inl rfl) (by decide) (by decide) hu) (by decide)) (fine_str _ _ _ _ _ (by decide) (by decide) (by decide) (Or.inl rfl) (by decide) (by decide) hf) (by decide)) (by decide)) (by decide))).1
  have HS : Hid (u.size ≤ 140737488355328 ∧ o.size ≤ 140737488355328 ∧ f.size ≤ 140737488355328 ∧ ByteArray.empty.size ≤ 140737488355328) := Lib.hid (⟨by omega, by omega, by omega, by decide⟩)
  clear hE tE hr hrb hu ho hf
  go_enter Tryd.func145, Tryd.ntmps145
  go_wp2_with (first
    | (go_at_call 87
       first
       | (with_reducible refine (encode_at 64 32 23 _ w).mono ?_
          rintro e W1 ⟨qp, rfl, hA, hB⟩
          have HAp_1 := Lib.hid hA
          have HZp : Hid (w.heap.size ≤ w.heap.size) := Lib.hid (Nat.le_refl _)
          have HB1 := Lib.hid (hB)
          clear hA hB)
       | (with_reducible refine (encode_at 128 0 1 _ W3).mono ?_
          rintro e W4 ⟨qv, rfl, hA, hB⟩
          have HAv_4 := Lib.hid hA
          have HLp_v := Lib.hid HAp_3.out.bel.size
          have HZv : Hid (w.heap.size ≤ W3.heap.size) := Lib.hid (HB3.out.size)
          have HAp_4 := Lib.hid (HAp_3.out.on hB)
          have HB4 := Lib.hid (HB3.out.trans (hB.mono HB3.out.size))
          clear hA hB)
       | (with_reducible refine (encode_at 0 32 16 _ W4).mono ?_
          rintro e W5 ⟨qs, rfl, hA, hB⟩
          have HAs_5 := Lib.hid hA
          have HLp_s := Lib.hid HAp_4.out.bel.size
          have HLv_s := Lib.hid HAv_4.out.bel.size
          have HZs : Hid (w.heap.size ≤ W4.heap.size) := Lib.hid (HB4.out.size)
          have HAp_5 := Lib.hid (HAp_4.out.on hB)
          have HAv_5 := Lib.hid (HAv_4.out.on hB)
          have HB5 := Lib.hid (HB4.out.trans (hB.mono HB4.out.size))
          have c5_0 : W5.cell? ⟨r, 0, none⟩ = some (.string u) := blk_cell (blk_below HR.out HB5.out) 0
          have c5_1 : W5.cell? ⟨r, 1, none⟩ = some (.string o) := blk_cell (blk_below HR.out HB5.out) 1
          have c5_2 : W5.cell? ⟨r, 2, none⟩ = some (.string f) := blk_cell (blk_below HR.out HB5.out) 2
          clear hA hB))
    | (go_at_call 62
       first
       | (with_reducible refine (string_at 128 0 0 zz0 _ W1 (by decide)).mono ?_
          rintro e W2 ⟨qc1, rfl, hA, hB⟩
          have HAc1_2 := Lib.hid hA
          have HLp_c1 := Lib.hid HAp_1.out.bel.size
          have HAp_2 := Lib.hid (HAp_1.out.on hB)
          have HB2 := Lib.hid (HB1.out.trans (hB.mono HB1.out.size))
          clear hA hB)
       | (with_reducible refine (string_at 128 0 0 u _ W5 HS.out.1).mono ?_
          rintro e W6 ⟨qc5, rfl, hA, hB⟩
          have HAc5_6 := Lib.hid hA
          have HLs_c5 := Lib.hid HAs_5.out.bel.size
          have HAp_6 := Lib.hid (HAp_5.out.on hB)
          have HAv_6 := Lib.hid (HAv_5.out.on hB)
          have HAs_6 := Lib.hid (HAs_5.out.on hB)
          have HB6 := Lib.hid (HB5.out.trans (hB.mono HB5.out.size))
          clear hA hB)
       | (with_reducible refine (string_at 128 0 2 f _ W7 HS.out.2.2.1).mono ?_
          rintro e W8 ⟨qc7, rfl, hA, hB⟩
          have HAc7_8 := Lib.hid hA
          have HLs_c7 := Lib.hid HAs_7.out.bel.size
          have HAp_8 := Lib.hid (HAp_7.out.on hB)
          have HAv_8 := Lib.hid (HAv_7.out.on hB)
          have HAs_8 := Lib.hid (HAs_7.out.on hB)
          have HB8 := Lib.hid (HB7.out.trans (hB.mono HB7.out.size))
          clear hA hB))
    | (go_at_call 93
       first
       | (with_reducible refine (app_at HAp_2.out HAc1_2.out HLp_c1.out HT0.out HT1.out (by decide) (by decide)).mono ?_
          rintro e W3 ⟨⟨u3_, rfl⟩, hA, hB⟩
          have HAp_3 := Lib.hid hA
          have HB3 := Lib.hid (HB2.out.trans (hB.mono HZp.out))
          clear hA hB)
       | (with_reducible refine (app_at HAs_6.out HAc5_6.out HLs_c5.out HT4.out HT5.out (by decide) (by decide)).mono ?_
          rintro e W7 ⟨⟨u7_, rfl⟩, hA, hB⟩
          have HAs_7 := Lib.hid hA
          have HAp_7 := Lib.hid (HAp_6.out.go hB HLp_s.out)
          have HAv_7 := Lib.hid (HAv_6.out.go hB HLv_s.out)
          have HB7 := Lib.hid (HB6.out.trans (hB.mono HZs.out))
          have c7_0 : W7.cell? ⟨r, 0, none⟩ = some (.string u) := blk_cell (blk_below HR.out HB7.out) 0
          have c7_1 : W7.cell? ⟨r, 1, none⟩ = some (.string o) := blk_cell (blk_below HR.out HB7.out) 1
          have c7_2 : W7.cell? ⟨r, 2, none⟩ = some (.string f) := blk_cell (blk_below HR.out HB7.out) 2
          clear hA hB)
       | (with_reducible refine (app_at HAs_8.out HAc7_8.out HLs_c7.out HT6.out HT7.out (by decide) (by decide)).mono ?_
          rintro e W9 ⟨⟨u9_, rfl⟩, hA, hB⟩
          have HAs_9 := Lib.hid hA
          have HAp_9 := Lib.hid (HAp_8.out.go hB HLp_s.out)
          have HAv_9 := Lib.hid (HAv_8.out.go hB HLv_s.out)
          have HB9 := Lib.hid (HB8.out.trans (hB.mono HZs.out))
          have c9_0 : W9.cell? ⟨r, 0, none⟩ = some (.string u) := blk_cell (blk_below HR.out HB9.out) 0
          have c9_1 : W9.cell? ⟨r, 1, none⟩ = some (.string o) := blk_cell (blk_below HR.out HB9.out) 1
          have c9_2 : W9.cell? ⟨r, 2, none⟩ = some (.string f) := blk_cell (blk_below HR.out HB9.out) 2
          clear hA hB)
       | (with_reducible refine (app_at HAv_9.out HAs_9.out HLv_s.out HT3.out HT8.out (by decide) (by decide)).mono ?_
          rintro e W10 ⟨⟨u10_, rfl⟩, hA, hB⟩
          have HAv_10 := Lib.hid hA
          have HAp_10 := Lib.hid (HAp_9.out.go hB HLp_v.out)
          have HB10 := Lib.hid (HB9.out.trans (hB.mono HZv.out))
          clear hA hB)
       | (with_reducible refine (app_at HAp_10.out HAv_10.out HLp_v.out HT2.out HT9.out (by decide) (by decide)).mono ?_
          rintro e W11 ⟨⟨u11_, rfl⟩, hA, hB⟩
          have HAp_11 := Lib.hid hA
          have HB11 := Lib.hid (HB10.out.trans (hB.mono HZp.out))
          clear hA hB)
       | (with_reducible refine (app_at (HE.out.on HB11.out) HAp_11.out HZp.out TE.out HT10.out (by omega) (by decide)).mono ?_
          rintro e W12 ⟨⟨u12_, rfl⟩, hA, hB⟩
          have HAE := Lib.hid hA
          have HBE := Lib.hid ((HB11.out.mono HE.out.le).trans hB)
          clear hA hB)))
  go_ret
  exact ⟨rfl, HAE.out, HBE.out⟩

/-- the request as data -/
def dPassTET (u : ByteArray) (o : ByteArray) (f : ByteArray) : S27 := ⟨1, 23, true, [], [⟨2, 0, false, bytesOf zz0, []⟩, ⟨2, 1, false, pkBytes 0 16 true (pkBytes 2 0 false (bytesOf u) ++ pkBytes 2 2 false (bytesOf f)), []⟩]⟩
theorem tr_PassTET (u : ByteArray) (o : ByteArray) (f : ByteArray) : trOf (pPassTET u o f) = dPassTET u o f := by
  unfold pPassTET dPassTET addK bare prim
  simp [trOf, trL]
theorem iPassTET_any (u o f : ByteArray) (w : World) (hu : u.size ≤ 1000000) (ho : o.size ≤ 1000000) (hf : f.size ≤ 1000000) (eu : u.toList.isEmpty = false) (eo : o.toList.isEmpty = true) (ef : f.toList.isEmpty = false) :
    Calls Tryd.prog 26 #[.string u, .string o, .string f] w (OpRes w (dPassTET u o f)) :=
  iPass_of _ _ u o f w (tr_PassTET u o f) ((pPassTET_fine u o f hu ho hf).ok (by decide)) (fun W hr hs q E n W' hE tE hn hb => appendTo_PassTET u o f hu ho hf eu eo ef (w.heap.size + 1) W.heap.size q n E W' hE tE hn (blk_below hr hb) (by omega))

/-- the request as a packet -/
def pPassTEE (u : ByteArray) (o : ByteArray) (f : ByteArray) : Pk := (addK (addK (bare 64 32 23 .nilIface zz1) (prim 128 0 0 (strV zz0) (bytesOf zz0) zz2)) (addK (bare 128 0 1 .nilIface zz3) (addK (bare 0 32 16 .nilIface zz4) (prim 128 0 0 (strV u) (bytesOf u) zz5))))
theorem pPassTEE_fine (u : ByteArray) (o : ByteArray) (f : ByteArray) (hu : u.size ≤ 1000000) (ho : o.size ≤ 1000000) (hf : f.size ≤ 1000000) : Fine (pPassTEE u o f) 2000056 := (fine_add (fine_add (fine_bare _ _ _ _ _ (by decide) (by decide) (by decide) (Or.inr rfl) (by decide) (by decide)) (fine_str (n := 1000000) _ _ _ _ _ (by decide) (by decide) (by decide) (Or.inl rfl) (by decide) (by decide) (by decide)) (by decide)) (fine_add (fine_bare _ _ _ _ _ (by decide) (by decide) (by decide) (Or.inl rfl) (by decide) (by decide)) (fine_add (fine_bare _ _ _ _ _ (by decide) (by decide) (by decide) (Or.inr rfl) (by decide) (by decide)) (fine_str _ _ _ _ _ (by decide) (by decide) (by decide) (Or.inl rfl) (by decide) (by decide) hu) (by decide)) (by decide)) (by decide))
set_option maxHeartbeats 3200000 in
set_option maxRecDepth 100000 in
theorem appendTo_PassTEE (u : ByteArray) (o : ByteArray) (f : ByteArray) (hu : u.size ≤ 1000000) (ho : o.size ≤ 1000000) (hf : f.size ≤ 1000000) (eu : u.toList.isEmpty = false) (eo : o.toList.isEmpty = true) (ef : f.toList.isEmpty = true) (r base q n : Nat) (E : Pk) (w : World) (hE : At w w base q E) (tE : Top E n) (hn : n < 100000000000)
    (hr : w.heap[r]? = some (.cells #[.string u, .string o, .string f] 170 (0, 0))) (hrb : r < base) :
    Calls Tryd.prog 145 #[.pointer (some ⟨r, 0, none⟩), .pointer (some ⟨q, 0, none⟩)] w fun e w' => e = .returned .nilIface ∧ At w' w' base q (addK E (pPassTEE u o f)) ∧ Below base w w' := by
  have HE := Lib.hid hE
  have TE := Lib.hid tE
  have HR := Lib.hid hr
  have HRB := Lib.hid hrb
  have HT0 : Hid (Top (bare 64 32 23 .nilIface zz1) 0) := Lib.hid ((fine_bare _ _ _ _ _ (by decide) (by decide) (by decide) (Or.inr rfl) (by decide) (by decide))).1
  have HT1 : Hid (Top (prim 128 0 0 (strV zz0) (bytesOf zz0) zz2) 1000000) := Lib.hid ((fine_str (n := 1000000) _ _ _ _ _ (by decide) (by decide) (by decide) (Or.inl rfl) (by decide) (by decide) (by decide))).1
  have HT2 : Hid (Top (addK (bare 64 32 23 .nilIface zz1) (prim 128 0 0 (strV zz0) (bytesOf zz0) zz2)) 1000014) := Lib.hid ((fine_add (fine_bare _ _ _ _ _ (by decide) (by decide) (by decide) (Or.inr rfl) (by decide) (by decide)) (fine_str (n := 1000000) _ _ _ _ _ (by decide) (by decide) (by decide) (Or.inl rfl) (by decide) (by decide) (by decide)) (by decide))).1
  have HT3 : Hid (Top (bare 128 0 1 .nilIface zz3) 0) := Lib.hid ((fine_bare _ _ _ _ _ (by decide) (by decide) (by decide) (Or.inl rfl) (by decide) (by decide))).1
  have HT4 : Hid (Top (bare 0 32 16 .nilIface zz4) 0) := Lib.hid ((fine_bare _ _ _ _ _ (by decide) (by decide) (by decide) (Or.inr rfl) (by decide) (by decide))).1
  have HT5 : Hid (Top (prim 128 0 0 (strV u) (bytesOf u) zz5) 1000000) := Lib.hid ((fine_str _ _ _ _ _ (by decide) (by decide) (by decide) (Or.inl rfl) (by decide) (by decide) hu)).1
  have HT6 : Hid (Top (addK (bare 0 32 16 .nilIface zz4) (prim 128 0 0 (strV u) (bytesOf u) zz5)) 1000014) := Lib.hid ((fine_add (fine_bare _ _ _ _ _ (by decide) (by decide) (by decide) (Or.inr rfl) (by decide) (by decide)) (fine_str _ _ _ _ _ (by decide) (by decide) (by decide) (Or.inl rfl) (by decide) (by decide) hu) (by decide))).1
  have HT7 : Hid (Top (addK (bare 128 0 1 .nilIface zz3) (addK (bare 0 32 16 .nilIface zz4) (prim 128 0 0 (strV u) (bytesOf u) zz5))) 1000028) := Lib.hid ((fine_add (fine_bare _ _ _ _ _ (by decide) (by decide) (by decide) (Or.inl rfl) (by decide) (by decide)) (fine_add (fine_bare _ _ _ _ _ (by decide) (by decide) (by decide) (Or.inr rfl) (by decide) (by decide)) (fine_str _ _ _ _ _ (by decide) (by decide) (by decide) (Or.inl rfl) (by decide) (by decide) hu) (by decide)) (by decide))).1
  have HT8 : Hid (Top (addK (addK (bare 64 32 23 .nilIface zz1) (prim 128 0 0 (strV zz0) (bytesOf zz0) zz2)) (addK (bare 128 0 1 .nilIface zz3) (addK (bare 0 32 16 .nilIface zz4) (prim 128 0 0 (strV u) (bytesOf u) zz5)))) 2000056) := Lib.hid ((fine_add (fine_add (fine_bare _ _ _ _ _ (by decide) (by decide) (by decide) (Or.inr rfl) (by decide) (by decide)) (fine_str (n := 1000000) _ _ _ _ _ (by decide) (by decide) (by decide) (Or.inl rfl) (by decide) (by decide) (by decide)) (by decide)) (fine_add (fine_bare _ _ _ _ _ (by decide) (by decide) (by decide) (Or.inl rfl) (by decide) (by decide)) (fine_add (fine_bare _ _ _ _ _ (by decide) (by decide) (by decide) (Or.inr rfl) (by decide) (by decide)) (fine_str _ _ _ _ _ (by decide) (by decide) (by decide) (Or.inl rfl) (by decide) (by decide) hu) (by decide)) (by decide)) (by decide))).1
  have HS : Hid (u.size ≤ 140737488355328 ∧ o.size ≤ 140737488355328 ∧ f.size ≤ 140737488355328 ∧ ByteArray.empty.size ≤ 140737488355328) := Lib.hid (⟨by omega, by omega, by omega, by decide⟩)
  clear hE tE hr hrb hu ho hf
  go_enter Tryd.func145, Tryd.ntmps145
  go_wp2_with (first
    | (go_at_call 87
       first
       | (with_reducible refine (encode_at 64 32 23 _ w).mono ?_
          rintro e W1 ⟨qp, rfl, hA, hB⟩
          have HAp_1 := Lib.hid hA
          have HZp : Hid (w.heap.size ≤ w.heap.size) := Lib.hid (Nat.le_refl _)
          have HB1 := Lib.hid (hB)
          clear hA hB)
       | (with_reducible refine (encode_at 128 0 1 _ W3).mono ?_
          rintro e W4 ⟨qv, rfl, hA, hB⟩
          have HAv_4 := Lib.hid hA
          have HLp_v := Lib.hid HAp_3.out.bel.size
          have HZv : Hid (w.heap.size ≤ W3.heap.size) := Lib.hid (HB3.out.size)
          have HAp_4 := Lib.hid (HAp_3.out.on hB)
          have HB4 := Lib.hid (HB3.out.trans (hB.mono HB3.out.size))
          clear hA hB)
       | (with_reducible refine (encode_at 0 32 16 _ W4).mono ?_
          rintro e W5 ⟨qs, rfl, hA, hB⟩
          have HAs_5 := Lib.hid hA
          have HLp_s := Lib.hid HAp_4.out.bel.size
          have HLv_s := Lib.hid HAv_4.out.bel.size
          have HZs : Hid (w.heap.size ≤ W4.heap.size) := Lib.hid (HB4.out.size)
          have HAp_5 := Lib.hid (HAp_4.out.on hB)
          have HAv_5 := Lib.hid (HAv_4.out.on hB)
          have HB5 := Lib.hid (HB4.out.trans (hB.mono HB4.out.size))
          have c5_0 : W5.cell? ⟨r, 0, none⟩ = some (.string u) := blk_cell (blk_below HR.out HB5.out) 0
          have c5_1 : W5.cell? ⟨r, 1, none⟩ = some (.string o) := blk_cell (blk_below HR.out HB5.out) 1
          have c5_2 : W5.cell? ⟨r, 2, none⟩ = some (.string f) := blk_cell (blk_below HR.out HB5.out) 2
          clear hA hB))
    | (go_at_call 62
       first
       | (with_reducible refine (string_at 128 0 0 zz0 _ W1 (by decide)).mono ?_
          rintro e W2 ⟨qc1, rfl, hA, hB⟩
          have HAc1_2 := Lib.hid hA
          have HLp_c1 := Lib.hid HAp_1.out.bel.size
          have HAp_2 := Lib.hid (HAp_1.out.on hB)
          have HB2 := Lib.hid (HB1.out.trans (hB.mono HB1.out.size))
          clear hA hB)
       | (with_reducible refine (string_at 128 0 0 u _ W5 HS.out.1).mono ?_
          rintro e W6 ⟨qc5, rfl, hA, hB⟩
          have HAc5_6 := Lib.hid hA
          have HLs_c5 := Lib.hid HAs_5.out.bel.size
          have HAp_6 := Lib.hid (HAp_5.out.on hB)
          have HAv_6 := Lib.hid (HAv_5.out.on hB)
          have HAs_6 := Lib.hid (HAs_5.out.on hB)
          have HB6 := Lib.hid (HB5.out.trans (hB.mono HB5.out.size))
          clear hA hB))
    | (go_at_call 93
       first
       | (with_reducible refine (app_at HAp_2.out HAc1_2.out HLp_c1.out HT0.out HT1.out (by decide) (by decide)).mono ?_
          rintro e W3 ⟨⟨u3_, rfl⟩, hA, hB⟩
          have HAp_3 := Lib.hid hA
          have HB3 := Lib.hid (HB2.out.trans (hB.mono HZp.out))
          clear hA hB)
       | (with_reducible refine (app_at HAs_6.out HAc5_6.out HLs_c5.out HT4.out HT5.out (by decide) (by decide)).mono ?_
          rintro e W7 ⟨⟨u7_, rfl⟩, hA, hB⟩
          have HAs_7 := Lib.hid hA
          have HAp_7 := Lib.hid (HAp_6.out.go hB HLp_s.out)
          have HAv_7 := Lib.hid (HAv_6.out.go hB HLv_s.out)
          have HB7 := Lib.hid (HB6.out.trans (hB.mono HZs.out))
          have c7_0 : W7.cell? ⟨r, 0, none⟩ = some (.string u) := blk_cell (blk_below HR.out HB7.out) 0
          have c7_1 : W7.cell? ⟨r, 1, none⟩ = some (.string o) := blk_cell (blk_below HR.out HB7.out) 1
          have c7_2 : W7.cell? ⟨r, 2, none⟩ = some (.string f) := blk_cell (blk_below HR.out HB7.out) 2
          clear hA hB)
       | (with_reducible refine (app_at HAv_7.out HAs_7.out HLv_s.out HT3.out HT6.out (by decide) (by decide)).mono ?_
          rintro e W8 ⟨⟨u8_, rfl⟩, hA, hB⟩
          have HAv_8 := Lib.hid hA
          have HAp_8 := Lib.hid (HAp_7.out.go hB HLp_v.out)
          have HB8 := Lib.hid (HB7.out.trans (hB.mono HZv.out))
          clear hA hB)
       | (with_reducible refine (app_at HAp_8.out HAv_8.out HLp_v.out HT2.out HT7.out (by decide) (by decide)).mono ?_
          rintro e W9 ⟨⟨u9_, rfl⟩, hA, hB⟩
          have HAp_9 := Lib.hid hA
          have HB9 := Lib.hid (HB8.out.trans (hB.mono HZp.out))
          clear hA hB)
       | (with_reducible refine (app_at (HE.out.on HB9.out) HAp_9.out HZp.out TE.out HT8.out (by omega) (by decide)).mono ?_
          rintro e W10 ⟨⟨u10_, rfl⟩, hA, hB⟩
          have HAE := Lib.hid hA
          have HBE := Lib.hid ((HB9.out.mono HE.out.le).trans hB)
          clear hA hB)))
  go_ret
  exact ⟨rfl, HAE.out, HBE.out⟩

/-- the request as data -/
def dPassTEE (u : ByteArray) (o : ByteArray) (f : ByteArray) : S27 := ⟨1, 23, true, [], [⟨2, 0, false, bytesOf zz0, []⟩, ⟨2, 1, false, pkBytes 0 16 true (pkBytes 2 0 false (bytesOf u)), []⟩]⟩
theorem tr_PassTEE (u : ByteArray) (o : ByteArray) (f : ByteArray) : trOf (pPassTEE u o f) = dPassTEE u o f := by
  unfold pPassTEE dPassTEE addK bare prim
  simp [trOf, trL]
theorem iPassTEE_any (u o f : ByteArray) (w : World) (hu : u.size ≤ 1000000) (ho : o.size ≤ 1000000) (hf : f.size ≤ 1000000) (eu : u.toList.isEmpty = false) (eo : o.toList.isEmpty = true) (ef : f.toList.isEmpty = true) :
    Calls Tryd.prog 26 #[.string u, .string o, .string f] w (OpRes w (dPassTEE u o f)) :=
  iPass_of _ _ u o f w (tr_PassTEE u o f) ((pPassTEE_fine u o f hu ho hf).ok (by decide)) (fun W hr hs q E n W' hE tE hn hb => appendTo_PassTEE u o f hu ho hf eu eo ef (w.heap.size + 1) W.heap.size q n E W' hE tE hn (blk_below hr hb) (by omega))

/-- the request as a packet -/
def pPassETT (u : ByteArray) (o : ByteArray) (f : ByteArray) : Pk := (addK (addK (bare 64 32 23 .nilIface zz1) (prim 128 0 0 (strV zz0) (bytesOf zz0) zz2)) (addK (bare 128 0 1 .nilIface zz3) (addK (addK (bare 0 32 16 .nilIface zz4) (prim 128 0 1 (strV o) (bytesOf o) zz6)) (prim 128 0 2 (strV f) (bytesOf f) zz7))))
theorem pPassETT_fine (u : ByteArray) (o : ByteArray) (f : ByteArray) (hu : u.size ≤ 1000000) (ho : o.size ≤ 1000000) (hf : f.size ≤ 1000000) : Fine (pPassETT u o f) 3000070 := (fine_add (fine_add (fine_bare _ _ _ _ _ (by decide) (by decide) (by decide) (Or.inr rfl) (by decide) (by decide)) (fine_str (n := 1000000) _ _ _ _ _ (by decide) (by decide) (by decide) (Or.inl rfl) (by decide) (by decide) (by decide)) (by decide)) (fine_add (fine_bare _ _ _ _ _ (by decide) (by decide) (by decide) (Or.inl rfl) (by decide) (by decide)) (fine_add (fine_add (fine_bare _ _ _ _ _ (by decide) (by decide) (by decide) (Or.inr rfl) (by decide) (by decide)) (fine_str _ _ _ _ _ (by decide) (by decide) (by decide) (Or.inl rfl) (by decide) (by decide) ho) (by decide)) (fine_str _ _ _ _ _ (by decide) (by decide) (by decide) (Or.inl rfl) (by decide) (by decide) hf) (by decide)) (by decide)) (by decide))
set_option maxHeartbeats 3200000 in
set_option maxRecDepth 100000 in
theorem appendTo_PassETT (u : ByteArray) (o : ByteArray) (f : ByteArray) (hu : u.size ≤ 1000000) (ho : o.size ≤ 1000000) (hf : f.size ≤ 1000000) (eu : u.toList.isEmpty = true) (eo : o.toList.isEmpty = false) (ef : f.toList.isEmpty = false) (r base q n : Nat) (E : Pk) (w : World) (hE : At w w base q E) (tE : Top E n) (hn : n < 100000000000)
    (hr : w.heap[r]? = some (.cells #[.string u, .string o, .string f] 170 (0, 0))) (hrb : r < base) :
    Calls Tryd.prog 145 #[.pointer (some ⟨r, 0, none⟩), .pointer (some ⟨q, 0, none⟩)] w fun e w' => e = .returned .nilIface ∧ At w' w' base q (addK E (pPassETT u o f)) ∧ Below base w w' := by
  have HE := Lib.hid hE
  have TE := Lib.hid tE
  have HR := Lib.hid hr
  have HRB := Lib.hid hrb
  have HT0 : Hid (Top (bare 64 32 23 .nilIface zz1) 0) := Lib.hid ((fine_bare _ _ _ _ _ (by decide) (by decide) (by decide) (Or.inr rfl) (by decide) (by decide))).1
  have HT1 : Hid (Top (prim 128 0 0 (strV zz0) (bytesOf zz0) zz2) 1000000) := Lib.hid ((fine_str (n := 1000000) _ _ _ _ _ (by decide) (by decide) (by decide) (Or.inl rfl) (by decide) (by decide) (by decide))).1
  have HT2 : Hid (Top (addK (bare 64 32 23 .nilIface zz1) (prim 128 0 0 (strV zz0) (bytesOf zz0) zz2)) 1000014) := Lib.hid ((fine_add (fine_bare _ _ _ _ _ (by decide) (by decide) (by decide) (Or.inr rfl) (by decide) (by decide)) (fine_str (n := 1000000) _ _ _ _ _ (by decide) (by decide) (by decide) (Or.inl rfl) (by decide) (by decide) (by decide)) (by decide))).1
  have HT3 : Hid (Top (bare 128 0 1 .nilIface zz3) 0) := Lib.hid ((fine_bare _ _ _ _ _ (by decide) (by decide) (by decide) (Or.inl rfl) (by decide) (by decide))).1
  have HT4 : Hid (Top (bare 0 32 16 .nilIface zz4) 0) := Lib.hid ((fine_bare _ _ _ _ _ (by decide) (by decide) (by decide) (Or.inr rfl) (by decide) (by decide))).1
  have HT5 : Hid (Top (prim 128 0 1 (strV o) (bytesOf o) zz6) 1000000) := Lib.hid ((fine_str _ _ _ _ _ (by decide) (by decide) (by decide) (Or.inl rfl) (by decide) (by decide) ho)).1
  have HT6 : Hid (Top (addK (bare 0 32 16 .nilIface zz4) (prim 128 0 1 (strV o) (bytesOf o) zz6)) 1000014) := Lib.hid ((fine_add (fine_bare _ _ _ _ _ (by decide) (by decide) (by decide) (Or.inr rfl) (by decide) (by decide)) (fine_str _ _ _ _ _ (by decide) (by decide) (by decide) (Or.inl rfl) (by decide) (by decide) ho) (by decide))).1
  have HT7 : Hid (Top (prim 128 0 2 (strV f) (bytesOf f) zz7) 1000000) := Lib.hid ((fine_str _ _ _ _ _ (by decide) (by decide) (by decide) (Or.inl rfl) (by decide) (by decide) hf)).1
  have HT8 : Hid (Top (addK (addK (bare 0 32 16 .nilIface zz4) (prim 128 0 1 (strV o) (bytesOf o) zz6)) (prim 128 0 2 (strV f) (bytesOf f) zz7)) 2000028) := Lib.hid ((fine_add (fine_add (fine_bare _ _ _ _ _ (by decide) (by decide) (by decide) (Or.inr rfl) (by decide) (by decide)) (fine_str _ _ _ _ _ (by decide) (by decide) (by decide) (Or.inl rfl) (by decide) (by decide) ho) (by decide)) (fine_str _ _ _ _ _ (by decide) (by decide) (by decide) (Or.inl rfl) (by decide) (by decide) hf) (by decide))).1
  have HT9 : Hid (Top (addK (bare 128 0 1 .nilIface zz3) (addK (addK (bare 0 32 16 .nilIface zz4) (prim 128 0 1 (strV o) (bytesOf o) zz6)) (prim 128 0 2 (strV f) (bytesOf f) zz7))) 2000042) := Lib.hid ((fine_add (fine_bare _ _ _ _ _ (by decide) (by decide) (by decide) (Or.inl rfl) (by decide) (by decide)) (fine_add (fine_add (fine_bare _ _ _ _ _ (by decide) (by decide) (by decide) (Or.inr rfl) (by decide) (by decide)) (fine_str _ _ _ _ _ (by decide) (by decide) (by decide) (Or.inl rfl) (by decide) (by decide) ho) (by decide)) (fine_str _ _ _ _ _ (by decide) (by decide) (by decide) (Or.inl rfl) (by decide) (by decide) hf) (by decide)) (by decide))).1
  have HT10 : Hid (Top (addK (addK (bare 64 32 23 .nilIface zz1) (prim 128 0 0 (strV zz0) (bytesOf zz0) zz2)) (addK (bare 128 0 1 .nilIface zz3) (addK (addK (bare 0 32 16 .nilIface zz4) (prim 128 0 1 (strV o) (bytesOf o) zz6)) (prim 128 0 2 (strV f) (bytesOf f) zz7)))) 3000070) := Lib.hid ((fine_add (fine_add (fine_bare _ _ _ _ _ (by decide) (by decide) (by decide) (Or.inr rfl) (by decide) (by decide)) (fine_str (n := 1000000) _ _ _ _ _ (by decide) (by decide) (by decide) (Or.inl rfl) (by decide) (by decide) (by decide)) (by decide)) (fine_add (fine_bare _ _ _ _ _ (by decide) (by decide) (by decide) (Or.inl rfl) (by decide) (by decide)) (fine_add (fine_add (fine_bare _ _ _ _ _ (by decide) (by decide) (by decide) (Or.inr rfl) (by decide) (by decide)) (fine_str _ _ _ _ _ (by decide) (by decide) (by decide) (Or.inl rfl) (by decide) (by decide) ho) (by decide)) (fine_str _ _ _ _ _ (by decide) (by decide) (by decide) (Or.inl rfl) (by decide) (by decide) hf) (by decide)) (by decide)) (by decide))).1
  have HS : Hid (u.size ≤ 140737488355328 ∧ o.size ≤ 140737488355328 ∧ f.size ≤ 140737488355328 ∧ ByteArray.empty.size ≤ 140737488355328) := Lib.hid (⟨by omega, by omega, by omega, by decide⟩)
  clear hE tE hr hrb hu ho hf
  go_enter Tryd.func145, Tryd.ntmps145
  go_wp2_with (first
    | (go_at_call 87
       first
       | (with_reducible refine (encode_at 64 32 23 _ w).mono ?_
          rintro e W1 ⟨qp, rfl, hA, hB⟩
          have HAp_1 := Lib.hid hA
          have HZp : Hid (w.heap.size ≤ w.heap.size) := Lib.hid (Nat.le_refl _)
          have HB1 := Lib.hid (hB)
          clear hA hB)
       | (with_reducible refine (encode_at 128 0 1 _ W3).mono ?_
          rintro e W4 ⟨qv, rfl, hA, hB⟩
          have HAv_4 := Lib.hid hA
          have HLp_v := Lib.hid HAp_3.out.bel.size
          have HZv : Hid (w.heap.size ≤ W3.heap.size) := Lib.hid (HB3.out.size)
          have HAp_4 := Lib.hid (HAp_3.out.on hB)
          have HB4 := Lib.hid (HB3.out.trans (hB.mono HB3.out.size))
          clear hA hB)
       | (with_reducible refine (encode_at 0 32 16 _ W4).mono ?_
          rintro e W5 ⟨qs, rfl, hA, hB⟩
          have HAs_5 := Lib.hid hA
          have HLp_s := Lib.hid HAp_4.out.bel.size
          have HLv_s := Lib.hid HAv_4.out.bel.size
          have HZs : Hid (w.heap.size ≤ W4.heap.size) := Lib.hid (HB4.out.size)
          have HAp_5 := Lib.hid (HAp_4.out.on hB)
          have HAv_5 := Lib.hid (HAv_4.out.on hB)
          have HB5 := Lib.hid (HB4.out.trans (hB.mono HB4.out.size))
          have c5_0 : W5.cell? ⟨r, 0, none⟩ = some (.string u) := blk_cell (blk_below HR.out HB5.out) 0
          have c5_1 : W5.cell? ⟨r, 1, none⟩ = some (.string o) := blk_cell (blk_below HR.out HB5.out) 1
          have c5_2 : W5.cell? ⟨r, 2, none⟩ = some (.string f) := blk_cell (blk_below HR.out HB5.out) 2
          clear hA hB))
    | (go_at_call 62
       first
       | (with_reducible refine (string_at 128 0 0 zz0 _ W1 (by decide)).mono ?_
          rintro e W2 ⟨qc1, rfl, hA, hB⟩
          have HAc1_2 := Lib.hid hA
          have HLp_c1 := Lib.hid HAp_1.out.bel.size
          have HAp_2 := Lib.hid (HAp_1.out.on hB)
          have HB2 := Lib.hid (HB1.out.trans (hB.mono HB1.out.size))
          clear hA hB)
       | (with_reducible refine (string_at 128 0 1 o _ W5 HS.out.2.1).mono ?_
          rintro e W6 ⟨qc5, rfl, hA, hB⟩
          have HAc5_6 := Lib.hid hA
          have HLs_c5 := Lib.hid HAs_5.out.bel.size
          have HAp_6 := Lib.hid (HAp_5.out.on hB)
          have HAv_6 := Lib.hid (HAv_5.out.on hB)
          have HAs_6 := Lib.hid (HAs_5.out.on hB)
          have HB6 := Lib.hid (HB5.out.trans (hB.mono HB5.out.size))
          clear hA hB)
       | (with_reducible refine (string_at 128 0 2 f _ W7 HS.out.2.2.1).mono ?_
          rintro e W8 ⟨qc7, rfl, hA, hB⟩
          have HAc7_8 := Lib.hid hA
          have HLs_c7 := Lib.hid HAs_7.out.bel.size
          have HAp_8 := Lib.hid (HAp_7.out.on hB)
          have HAv_8 := Lib.hid (HAv_7.out.on hB)
          have HAs_8 := Lib.hid (HAs_7.out.on hB)
          have HB8 := Lib.hid (HB7.out.trans (hB.mono HB7.out.size))
          clear hA hB))
    | (go_at_call 93
       first
       | (with_reducible refine (app_at HAp_2.out HAc1_2.out HLp_c1.out HT0.out HT1.out (by decide) (by decide)).mono ?_
          rintro e W3 ⟨⟨u3_, rfl⟩, hA, hB⟩
          have HAp_3 := Lib.hid hA
          have HB3 := Lib.hid (HB2.out.trans (hB.mono HZp.out))
          clear hA hB)
       | (with_reducible refine (app_at HAs_6.out HAc5_6.out HLs_c5.out HT4.out HT5.out (by decide) (by decide)).mono ?_
          rintro e W7 ⟨⟨u7_, rfl⟩, hA, hB⟩
          have HAs_7 := Lib.hid hA
          have HAp_7 := Lib.hid (HAp_6.out.go hB HLp_s.out)
          have HAv_7 := Lib.hid (HAv_6.out.go hB HLv_s.out)
          have HB7 := Lib.hid (HB6.out.trans (hB.mono HZs.out))
          have c7_0 : W7.cell? ⟨r, 0, none⟩ = some (.string u) := blk_cell (blk_below HR.out HB7.out) 0
          have c7_1 : W7.cell? ⟨r, 1, none⟩ = some (.string o) := blk_cell (blk_below HR.out HB7.out) 1
          have c7_2 : W7.cell? ⟨r, 2, none⟩ = some (.string f) := blk_cell (blk_below HR.out HB7.out) 2
          clear hA hB)
       | (with_reducible refine (app_at HAs_8.out HAc7_8.out HLs_c7.out HT6.out HT7.out (by decide) (by decide)).mono ?_
          rintro e W9 ⟨⟨u9_, rfl⟩, hA, hB⟩
          have HAs_9 := Lib.hid hA
          have HAp_9 := Lib.hid (HAp_8.out.go hB HLp_s.out)
          have HAv_9 := Lib.hid (HAv_8.out.go hB HLv_s.out)
          have HB9 := Lib.hid (HB8.out.trans (hB.mono HZs.out))
          have c9_0 : W9.cell? ⟨r, 0, none⟩ = some (.string u) := blk_cell (blk_below HR.out HB9.out) 0
          have c9_1 : W9.cell? ⟨r, 1, none⟩ = some (.string o) := blk_cell (blk_below HR.out HB9.out) 1
          have c9_2 : W9.cell? ⟨r, 2, none⟩ = some (.string f) := blk_cell (blk_below HR.out HB9.out) 2
          clear hA hB)
       | (with_reducible refine (app_at HAv_9.out HAs_9.out HLv_s.out HT3.out HT8.out (by decide) (by decide)).mono ?_
          rintro e W10 ⟨⟨u10_, rfl⟩, hA, hB⟩
          have HAv_10 := Lib.hid hA
          have HAp_10 := Lib.hid (HAp_9.out.go hB HLp_v.out)
          have HB10 := Lib.hid (HB9.out.trans (hB.mono HZv.out))
          clear hA hB)
       | (with_reducible refine (app_at HAp_10.out HAv_10.out HLp_v.out HT2.out HT9.out (by decide) (by decide)).mono ?_
          rintro e W11 ⟨⟨u11_, rfl⟩, hA, hB⟩
          have HAp_11 := Lib.hid hA
          have HB11 := Lib.hid (HB10.out.trans (hB.mono HZp.out))
          clear hA hB)
       | (with_reducible refine (app_at (HE.out.on HB11.out) HAp_11.out HZp.out TE.out HT10.out (by omega) (by decide)).mono ?_
          rintro e W12 ⟨⟨u12_, rfl⟩, hA, hB⟩
          have HAE := Lib.hid hA
          have HBE := Lib.hid ((HB11.out.mono HE.out.le).trans hB)
          clear hA hB)))
  go_ret
  exact ⟨rfl, HAE.out, HBE.out⟩

/-- the request as data -/
def dPassETT (u : ByteArray) (o : ByteArray) (f : ByteArray) : S27 := ⟨1, 23, true, [], [⟨2, 0, false, bytesOf zz0, []⟩, ⟨2, 1, false, pkBytes 0 16 true (pkBytes 2 1 false (bytesOf o) ++ pkBytes 2 2 false (bytesOf f)), []⟩]⟩
theorem tr_PassETT (u : ByteArray) (o : ByteArray) (f : ByteArray) : trOf (pPassETT u o f) = dPassETT u o f := by
  unfold pPassETT dPassETT addK bare prim
  simp [trOf, trL]
theorem iPassETT_any (u o f : ByteArray) (w : World) (hu : u.size ≤ 1000000) (ho : o.size ≤ 1000000) (hf : f.size ≤ 1000000) (eu : u.toList.isEmpty = true) (eo : o.toList.isEmpty = false) (ef : f.toList.isEmpty = false) :
    Calls Tryd.prog 26 #[.string u, .string o, .string f] w (OpRes w (dPassETT u o f)) :=
  iPass_of _ _ u o f w (tr_PassETT u o f) ((pPassETT_fine u o f hu ho hf).ok (by decide)) (fun W hr hs q E n W' hE tE hn hb => appendTo_PassETT u o f hu ho hf eu eo ef (w.heap.size + 1) W.heap.size q n E W' hE tE hn (blk_below hr hb) (by omega))

/-- the request as a packet -/
def pPassETE (u : ByteArray) (o : ByteArray) (f : ByteArray) : Pk := (addK (addK (bare 64 32 23 .nilIface zz1) (prim 128 0 0 (strV zz0) (bytesOf zz0) zz2)) (addK (bare 128 0 1 .nilIface zz3) (addK (bare 0 32 16 .nilIface zz4) (prim 128 0 1 (strV o) (bytesOf o) zz6))))
theorem pPassETE_fine (u : ByteArray) (o : ByteArray) (f : ByteArray) (hu : u.size ≤ 1000000) (ho : o.size ≤ 1000000) (hf : f.size ≤ 1000000) : Fine (pPassETE u o f) 2000056 := (fine_add (fine_add (fine_bare _ _ _ _ _ (by decide) (by decide) (by decide) (Or.inr rfl) (by decide) (by decide)) (fine_str (n := 1000000) _ _ _ _ _ (by decide) (by decide) (by decide) (Or.inl rfl) (by decide) (by decide) (by decide)) (by decide)) (fine_add (fine_bare _ _ _ _ _ (by decide) (by decide) (by decide) (Or.inl rfl) (by decide) (by decide)) (fine_add (fine_bare _ _ _ _ _ (by decide) (by decide) (by decide) (Or.inr rfl) (by decide) (by decide)) (fine_str _ _ _ _ _ (by decide) (by decide) (by decide) (Or.inl rfl) (by decide) (by decide) ho) (by decide)) (by decide)) (by decide))
set_option maxHeartbeats 3200000 in
set_option maxRecDepth 100000 in
theorem appendTo_PassETE (u : ByteArray) (o : ByteArray) (f : ByteArray) (hu : u.size ≤ 1000000) (ho : o.size ≤ 1000000) (hf : f.size ≤ 1000000) (eu : u.toList.isEmpty = true) (eo : o.toList.isEmpty = false) (ef : f.toList.isEmpty = true) (r base q n : Nat) (E : Pk) (w : World) (hE : At w w base q E) (tE : Top E n) (hn : n < 100000000000)
    (hr : w.heap[r]? = some (.cells #[.string u, .string o, .string f] 170 (0, 0))) (hrb : r < base) :
    Calls Tryd.prog 145 #[.pointer (some ⟨r, 0, none⟩), .pointer (some ⟨q, 0, none⟩)] w fun e w' => e = .returned .nilIface ∧ At w' w' base q (addK E (pPassETE u o f)) ∧ Below base w w' := by
  have HE := Lib.hid hE
  have TE := Lib.hid tE
  have HR := Lib.hid hr
  have HRB := Lib.hid hrb
  have HT0 : Hid (Top (bare 64 32 23 .nilIface zz1) 0) := Lib.hid ((fine_bare _ _ _ _ _ (by decide) (by decide) (by decide) (Or.inr rfl) (by decide) (by decide))).1
  have HT1 : Hid (Top (prim 128 0 0 (strV zz0) (bytesOf zz0) zz2) 1000000) := Lib.hid ((fine_str (n := 1000000) _ _ _ _ _ (by decide) (by decide) (by decide) (Or.inl rfl) (by decide) (by decide) (by decide))).1
  have HT2 : Hid (Top (addK (bare 64 32 23 .nilIface zz1) (prim 128 0 0 (strV zz0) (bytesOf zz0) zz2)) 1000014) := Lib.hid ((fine_add (fine_bare _ _ _ _ _ (by decide) (by decide) (by decide) (Or.inr rfl) (by decide) (by decide)) (fine_str (n := 1000000) _ _ _ _ _ (by decide) (by decide) (by decide) (Or.inl rfl) (by decide) (by decide) (by decide)) (by decide))).1
  have HT3 : Hid (Top (bare 128 0 1 .nilIface zz3) 0) := Lib.hid ((fine_bare _ _ _ _ _ (by decide) (by decide) (by decide) (Or.inl rfl) (by decide) (by decide))).1
  have HT4 : Hid (Top (bare 0 32 16 .nilIface zz4) 0) := Lib.hid ((fine_bare _ _ _ _ _ (by decide) (by decide) (by decide) (Or.inr rfl) (by decide) (by decide))).1
  have HT5 : Hid (Top (prim 128 0 1 (strV o) (bytesOf o) zz6) 1000000) := Lib.hid ((fine_str _ _ _ _ _ (by decide) (by decide) (by decide) (Or.inl rfl) (by decide) (by decide) ho)).1
  have HT6 : Hid (Top (addK (bare 0 32 16 .nilIface zz4) (prim 128 0 1 (strV o) (bytesOf o) zz6)) 1000014) := Lib.hid ((fine_add (fine_bare _ _ _ _ _ (by decide) (by decide) (by decide) (Or.inr rfl) (by decide) (by decide)) (fine_str _ _ _ _ _ (by decide) (by decide) (by decide) (Or.inl rfl) (by decide) (by decide) ho) (by decide))).1
  have HT7 : Hid (Top (addK (bare 128 0 1 .nilIface zz3) (addK (bare 0 32 16 .nilIface zz4) (prim 128 0 1 (strV o) (bytesOf o) zz6))) 1000028) := Lib.hid ((fine_add (fine_bare _ _ _ _ _ (by decide) (by decide) (by decide) (Or.inl rfl) (by decide) (by decide)) (fine_add (fine_bare _ _ _ _ _ (by decide) (by decide) (by decide) (Or.inr rfl) (by decide) (by decide)) (fine_str _ _ _ _ _ (by decide) (by decide) (by decide) (Or.inl rfl) (by decide) (by decide) ho) (by decide)) (by decide))).1
  have HT8 : Hid (Top (addK (addK (bare 64 32 23 .nilIface zz1) (prim 128 0 0 (strV zz0) (bytesOf zz0) zz2)) (addK (bare 128 0 1 .nilIface zz3) (addK (bare 0 32 16 .nilIface zz4) (prim 128 0 1 (strV o) (bytesOf o) zz6)))) 2000056) := Lib.hid ((fine_add (fine_add (fine_bare _ _ _ _ _ (by decide) (by decide) (by decide) (Or.inr rfl) (by decide) (by decide)) (fine_str (n := 1000000) _ _ _ _ _ (by decide) (by decide) (by decide) (Or.inl rfl) (by decide) (by decide) (by decide)) (by decide)) (fine_add (fine_bare _ _ _ _ _ (by decide) (by decide) (by decide) (Or.inl rfl) (by decide) (by decide)) (fine_add (fine_bare _ _ _ _ _ (by decide) (by decide) (by decide) (Or.inr rfl) (by decide) (by decide)) (fine_str _ _ _ _ _ (by decide) (by decide) (by decide) (Or.inl rfl) (by decide) (by decide) ho) (by decide)) (by decide)) (by decide))).1
  have HS : Hid (u.size ≤ 140737488355328 ∧ o.size ≤ 140737488355328 ∧ f.size ≤ 140737488355328 ∧ ByteArray.empty.size ≤ 140737488355328) := Lib.hid (⟨by omega, by omega, by omega, by decide⟩)
  clear hE tE hr hrb hu ho hf
  go_enter Tryd.func145, Tryd.ntmps145
  go_wp2_with (first
    | (go_at_call 87
       first
       | (with_reducible refine (encode_at 64 32 23 _ w).mono ?_
          rintro e W1 ⟨qp, rfl, hA, hB⟩
          have HAp_1 := Lib.hid hA
          have HZp : Hid (w.heap.size ≤ w.heap.size) := Lib.hid (Nat.le_refl _)
          have HB1 := Lib.hid (hB)
          clear hA hB)
       | (with_reducible refine (encode_at 128 0 1 _ W3).mono ?_
          rintro e W4 ⟨qv, rfl, hA, hB⟩
          have HAv_4 := Lib.hid hA
          have HLp_v := Lib.hid HAp_3.out.bel.size
          have HZv : Hid (w.heap.size ≤ W3.heap.size) := Lib.hid (HB3.out.size)
          have HAp_4 := Lib.hid (HAp_3.out.on hB)
          have HB4 := Lib.hid (HB3.out.trans (hB.mono HB3.out.size))
          clear hA hB)
       | (with_reducible refine (encode_at 0 32 16 _ W4).mono ?_
          rintro e W5 ⟨qs, rfl, hA, hB⟩
          have HAs_5 := Lib.hid hA
          have HLp_s := Lib.hid HAp_4.out.bel.size
          have HLv_s := Lib.hid HAv_4.out.bel.size
          have HZs : Hid (w.heap.size ≤ W4.heap.size) := Lib.hid (HB4.out.size)
          have HAp_5 := Lib.hid (HAp_4.out.on hB)
          have HAv_5 := Lib.hid (HAv_4.out.on hB)
          have HB5 := Lib.hid (HB4.out.trans (hB.mono HB4.out.size))
          have c5_0 : W5.cell? ⟨r, 0, none⟩ = some (.string u) := blk_cell (blk_below HR.out HB5.out) 0
          have c5_1 : W5.cell? ⟨r, 1, none⟩ = some (.string o) := blk_cell (blk_below HR.out HB5.out) 1
          have c5_2 : W5.cell? ⟨r, 2, none⟩ = some (.string f) := blk_cell (blk_below HR.out HB5.out) 2
          clear hA hB))
    | (go_at_call 62
       first
       | (with_reducible refine (string_at 128 0 0 zz0 _ W1 (by decide)).mono ?_
          rintro e W2 ⟨qc1, rfl, hA, hB⟩
          have HAc1_2 := Lib.hid hA
          have HLp_c1 := Lib.hid HAp_1.out.bel.size
          have HAp_2 := Lib.hid (HAp_1.out.on hB)
          have HB2 := Lib.hid (HB1.out.trans (hB.mono HB1.out.size))
          clear hA hB)
       | (with_reducible refine (string_at 128 0 1 o _ W5 HS.out.2.1).mono ?_
          rintro e W6 ⟨qc5, rfl, hA, hB⟩
          have HAc5_6 := Lib.hid hA
          have HLs_c5 := Lib.hid HAs_5.out.bel.size
          have HAp_6 := Lib.hid (HAp_5.out.on hB)
          have HAv_6 := Lib.hid (HAv_5.out.on hB)
          have HAs_6 := Lib.hid (HAs_5.out.on hB)
          have HB6 := Lib.hid (HB5.out.trans (hB.mono HB5.out.size))
          clear hA hB))
    | (go_at_call 93
       first
       | (with_reducible refine (app_at HAp_2.out HAc1_2.out HLp_c1.out HT0.out HT1.out (by decide) (by decide)).mono ?_
          rintro e W3 ⟨⟨u3_, rfl⟩, hA, hB⟩
          have HAp_3 := Lib.hid hA
          have HB3 := Lib.hid (HB2.out.trans (hB.mono HZp.out))
          clear hA hB)
       | (with_reducible refine (app_at HAs_6.out HAc5_6.out HLs_c5.out HT4.out HT5.out (by decide) (by decide)).mono ?_
          rintro e W7 ⟨⟨u7_, rfl⟩, hA, hB⟩
          have HAs_7 := Lib.hid hA
          have HAp_7 := Lib.hid (HAp_6.out.go hB HLp_s.out)
          have HAv_7 := Lib.hid (HAv_6.out.go hB HLv_s.out)
          have HB7 := Lib.hid (HB6.out.trans (hB.mono HZs.out))
          have c7_0 : W7.cell? ⟨r, 0, none⟩ = some (.string u) := blk_cell (blk_below HR.out HB7.out) 0
          have c7_1 : W7.cell? ⟨r, 1, none⟩ = some (.string o) := blk_cell (blk_below HR.out HB7.out) 1
          have c7_2 : W7.cell? ⟨r, 2, none⟩ = some (.string f) := blk_cell (blk_below HR.out HB7.out) 2
          clear hA hB)
       | (with_reducible refine (app_at HAv_7.out HAs_7.out HLv_s.out HT3.out HT6.out (by decide) (by decide)).mono ?_
          rintro e W8 ⟨⟨u8_, rfl⟩, hA, hB⟩
          have HAv_8 := Lib.hid hA
          have HAp_8 := Lib.hid (HAp_7.out.go hB HLp_v.out)
          have HB8 := Lib.hid (HB7.out.trans (hB.mono HZv.out))
          clear hA hB)
       | (with_reducible refine (app_at HAp_8.out HAv_8.out HLp_v.out HT2.out HT7.out (by decide) (by decide)).mono ?_
          rintro e W9 ⟨⟨u9_, rfl⟩, hA, hB⟩
          have HAp_9 := Lib.hid hA
          have HB9 := Lib.hid (HB8.out.trans (hB.mono HZp.out))
          clear hA hB)
       | (with_reducible refine (app_at (HE.out.on HB9.out) HAp_9.out HZp.out TE.out HT8.out (by omega) (by decide)).mono ?_
          rintro e W10 ⟨⟨u10_, rfl⟩, hA, hB⟩
          have HAE := Lib.hid hA
          have HBE := Lib.hid ((HB9.out.mono HE.out.le).trans hB)
          clear hA hB)))
  go_ret
  exact ⟨rfl, HAE.out, HBE.out⟩

/-- the request as data -/
def dPassETE (u : ByteArray) (o : ByteArray) (f : ByteArray) : S27 := ⟨1, 23, true, [], [⟨2, 0, false, bytesOf zz0, []⟩, ⟨2, 1, false, pkBytes 0 16 true (pkBytes 2 1 false (bytesOf o)), []⟩]⟩
theorem tr_PassETE (u : ByteArray) (o : ByteArray) (f : ByteArray) : trOf (pPassETE u o f) = dPassETE u o f := by
  unfold pPassETE dPassETE addK bare prim
  simp [trOf, trL]
theorem iPassETE_any (u o f : ByteArray) (w : World) (hu : u.size ≤ 1000000) (ho : o.size ≤ 1000000) (hf : f.size ≤ 1000000) (eu : u.toList.isEmpty = true) (eo : o.toList.isEmpty = false) (ef : f.toList.isEmpty = true) :
    Calls Tryd.prog 26 #[.string u, .string o, .string f] w (OpRes w (dPassETE u o f)) :=
  iPass_of _ _ u o f w (tr_PassETE u o f) ((pPassETE_fine u o f hu ho hf).ok (by decide)) (fun W hr hs q E n W' hE tE hn hb => appendTo_PassETE u o f hu ho hf eu eo ef (w.heap.size + 1) W.heap.size q n E W' hE tE hn (blk_below hr hb) (by omega))

/-- the request as a packet -/
def pPassEET (u : ByteArray) (o : ByteArray) (f : ByteArray) : Pk := (addK (addK (bare 64 32 23 .nilIface zz1) (prim 128 0 0 (strV zz0) (bytesOf zz0) zz2)) (addK (bare 128 0 1 .nilIface zz3) (addK (bare 0 32 16 .nilIface zz4) (prim 128 0 2 (strV f) (bytesOf f) zz7))))
theorem pPassEET_fine (u : ByteArray) (o : ByteArray) (f : ByteArray) (hu : u.size ≤ 1000000) (ho : o.size ≤ 1000000) (hf : f.size ≤ 1000000) : Fine (pPassEET u o f) 2000056 := (fine_add (fine_add (fine_bare _ _ _ _ _ (by decide) (by decide) (by decide) (Or.inr rfl) (by decide) (by decide)) (fine_str (n := 1000000) _ _ _ _ _ (by decide) (by decide) (by decide) (Or.inl rfl) (by decide) (by decide) (by decide)) (by decide)) (fine_add (fine_bare _ _ _ _ _ (by decide) (by decide) (by decide) (Or.inl rfl) (by decide) (by decide)) (fine_add (fine_bare _ _ _ _ _ (by decide) (by decide) (by decide) (Or.inr rfl) (by decide) (by decide)) (fine_str _ _ _ _ _ (by decide) (by decide) (by decide) (Or.inl rfl) (by decide) (by decide) hf) (by decide)) (by decide)) (by decide))
set_option maxHeartbeats 3200000 in
set_option maxRecDepth 100000 in
theorem appendTo_PassEET (u : ByteArray) (o : ByteArray) (f : ByteArray) (hu : u.size ≤ 1000000) (ho : o.size ≤ 1000000) (hf : f.size ≤ 1000000) (eu : u.toList.isEmpty = true) (eo : o.toList.isEmpty = true) (ef : f.toList.isEmpty = false) (r base q n : Nat) (E : Pk) (w : World) (hE : At w w base q E) (tE : Top E n) (hn : n < 100000000000)
    (hr : w.heap[r]? = some (.cells #[.string u, .string o, .string f] 170 (0, 0))) (hrb : r < base) :
    Calls Tryd.prog 145 #[.pointer (some ⟨r, 0, none⟩), .pointer (some ⟨q, 0, none⟩)] w fun e w' => e = .returned .nilIface ∧ At w' w' base q (addK E (pPassEET u o f)) ∧ Below base w w' := by
  have HE := Lib.hid hE
  have TE := Lib.hid tE
  have HR := Lib.hid hr
  have HRB := Lib.hid hrb
  have HT0 : Hid (Top (bare 64 32 23 .nilIface zz1) 0) := Lib.hid ((fine_bare _ _ _ _ _ (by decide) (by decide) (by decide) (Or.inr rfl) (by decide) (by decide))).1
  have HT1 : Hid (Top (prim 128 0 0 (strV zz0) (bytesOf zz0) zz2) 1000000) := Lib.hid ((fine_str (n := 1000000) _ _ _ _ _ (by decide) (by decide) (by decide) (Or.inl rfl) (by decide) (by decide) (by decide))).1
  have HT2 : Hid (Top (addK (bare 64 32 23 .nilIface zz1) (prim 128 0 0 (strV zz0) (bytesOf zz0) zz2)) 1000014) := Lib.hid ((fine_add (fine_bare _ _ _ _ _ (by decide) (by decide) (by decide) (Or.inr rfl) (by decide) (by decide)) (fine_str (n := 1000000) _ _ _ _ _ (by decide) (by decide) (by decide) (Or.inl rfl) (by decide) (by decide) (by decide)) (by decide))).1
  have HT3 : Hid (Top (bare 128 0 1 .nilIface zz3) 0) := Lib.hid ((fine_bare _ _ _ _ _ (by decide) (by decide) (by decide) (Or.inl rfl) (by decide) (by decide))).1
  have HT4 : Hid (Top (bare 0 32 16 .nilIface zz4) 0) := Lib.hid ((fine_bare _ _ _ _ _ (by decide) (by decide) (by decide) (Or.inr rfl) (by decide) (by decide))).1
  have HT5 : Hid (Top (prim 128 0 2 (strV f) (bytesOf f) zz7) 1000000) := Lib.hid ((fine_str _ _ _ _ _ (by decide) (by decide) (by decide) (Or.inl rfl) (by decide) (by decide) hf)).1
  have HT6 : Hid (Top (addK (bare 0 32 16 .nilIface zz4) (prim 128 0 2 (strV f) (bytesOf f) zz7)) 1000014) := Lib.hid ((fine_add (fine_bare _ _ _ _ _ (by decide) (by decide) (by decide) (Or.inr rfl) (by decide) (by decide)) (fine_str _ _ _ _ _ (by decide) (by decide) (by decide) (Or.inl rfl) (by decide) (by decide) hf) (by decide))).1
  have HT7 : Hid (Top (addK (bare 128 0 1 .nilIface zz3) (addK (bare 0 32 16 .nilIface zz4) (prim 128 0 2 (strV f) (bytesOf f) zz7))) 1000028) := Lib.hid ((fine_add (fine_bare _ _ _ _ _ (by decide) (by decide) (by decide) (Or.inl rfl) (by decide) (by decide)) (fine_add (fine_bare _ _ _ _ _ (by decide) (by decide) (by decide) (Or.inr rfl) (by decide) (by decide)) (fine_str _ _ _ _ _ (by decide) (by decide) (by decide) (Or.inl rfl) (by decide) (by decide) hf) (by decide)) (by decide))).1
  have HT8 : Hid (Top (addK (addK (bare 64 32 23 .nilIface zz1) (prim 128 0 0 (strV zz0) (bytesOf zz0) zz2)) (addK (bare 128 0 1 .nilIface zz3) (addK (bare 0 32 16 .nilIface zz4) (prim 128 0 2 (strV f) (bytesOf f) zz7)))) 2000056) := Lib.hid ((fine_add (fine_add (fine_bare _ _ _ _ _ (by decide) (by decide) (by decide) (Or.inr rfl) (by decide) (by decide)) (fine_str (n := 1000000) _ _ _ _ _ (by decide) (by decide) (by decide) (Or.inl rfl) (by decide) (by decide) (by decide)) (by decide)) (fine_add (fine_bare _ _ _ _ _ (by decide) (by decide) (by decide) (Or.inl rfl) (by decide) (by decide)) (fine_add (fine_bare _ _ _ _ _ (by decide) (by decide) (by decide) (Or.inr rfl) (by decide) (by decide)) (fine_str _ _ _ _ _ (by decide) (by decide) (by decide) (Or.inl rfl) (by decide) (by decide) hf) (by decide)) (by decide)) (by decide))).1
  have HS : Hid (u.size ≤ 140737488355328 ∧ o.size ≤ 140737488355328 ∧ f.size ≤ 140737488355328 ∧ ByteArray.empty.size ≤ 140737488355328) := Lib.hid (⟨by omega, by omega, by omega, by decide⟩)
  clear hE tE hr hrb hu ho hf
  go_enter Tryd.func145, Tryd.ntmps145
  go_wp2_with (first
    | (go_at_call 87
       first
       | (with_reducible refine (encode_at 64 32 23 _ w).mono ?_
          rintro e W1 ⟨qp, rfl, hA, hB⟩
          have HAp_1 := Lib.hid hA
          have HZp : Hid (w.heap.size ≤ w.heap.size) := Lib.hid (Nat.le_refl _)
          have HB1 := Lib.hid (hB)
          clear hA hB)
       | (with_reducible refine (encode_at 128 0 1 _ W3).mono ?_
          rintro e W4 ⟨qv, rfl, hA, hB⟩
          have HAv_4 := Lib.hid hA
          have HLp_v := Lib.hid HAp_3.out.bel.size
          have HZv : Hid (w.heap.size ≤ W3.heap.size) := Lib.hid (HB3.out.size)
          have HAp_4 := Lib.hid (HAp_3.out.on hB)
          have HB4 := Lib.hid (HB3.out.trans (hB.mono HB3.out.size))
          clear hA hB)
       | (with_reducible refine (encode_at 0 32 16 _ W4).mono ?_
          rintro e W5 ⟨qs, rfl, hA, hB⟩
          have HAs_5 := Lib.hid hA
          have HLp_s := Lib.hid HAp_4.out.bel.size
          have HLv_s := Lib.hid HAv_4.out.bel.size
          have HZs : Hid (w.heap.size ≤ W4.heap.size) := Lib.hid (HB4.out.size)
          have HAp_5 := Lib.hid (HAp_4.out.on hB)
          have HAv_5 := Lib.hid (HAv_4.out.on hB)
          have HB5 := Lib.hid (HB4.out.trans (hB.mono HB4.out.size))
          have c5_0 : W5.cell? ⟨r, 0, none⟩ = some (.string u) := blk_cell (blk_below HR.out HB5.out) 0
          have c5_1 : W5.cell? ⟨r, 1, none⟩ = some (.string o) := blk_cell (blk_below HR.out HB5.out) 1
          have c5_2 : W5.cell? ⟨r, 2, none⟩ = some (.string f) := blk_cell (blk_below HR.out HB5.out) 2
          clear hA hB))
    | (go_at_call 62
       first
       | (with_reducible refine (string_at 128 0 0 zz0 _ W1 (by decide)).mono ?_
          rintro e W2 ⟨qc1, rfl, hA, hB⟩
          have HAc1_2 := Lib.hid hA
          have HLp_c1 := Lib.hid HAp_1.out.bel.size
          have HAp_2 := Lib.hid (HAp_1.out.on hB)
          have HB2 := Lib.hid (HB1.out.trans (hB.mono HB1.out.size))
          clear hA hB)
       | (with_reducible refine (string_at 128 0 2 f _ W5 HS.out.2.2.1).mono ?_
          rintro e W6 ⟨qc5, rfl, hA, hB⟩
          have HAc5_6 := Lib.hid hA
          have HLs_c5 := Lib.hid HAs_5.out.bel.size
          have HAp_6 := Lib.hid (HAp_5.out.on hB)
          have HAv_6 := Lib.hid (HAv_5.out.on hB)
          have HAs_6 := Lib.hid (HAs_5.out.on hB)
          have HB6 := Lib.hid (HB5.out.trans (hB.mono HB5.out.size))
          clear hA hB))
    | (go_at_call 93
       first
       | (with_reducible refine (app_at HAp_2.out HAc1_2.out HLp_c1.out HT0.out HT1.out (by decide) (by decide)).mono ?_
          rintro e W3 ⟨⟨u3_, rfl⟩, hA, hB⟩
          have HAp_3 := Lib.hid hA
          have HB3 := Lib.hid (HB2.out.trans (hB.mono HZp.out))
          clear hA hB)
       | (with_reducible refine (app_at HAs_6.out HAc5_6.out HLs_c5.out HT4.out HT5.out (by decide) (by decide)).mono ?_
          rintro e W7 ⟨⟨u7_, rfl⟩, hA, hB⟩
          have HAs_7 := Lib.hid hA
          have HAp_7 := Lib.hid (HAp_6.out.go hB HLp_s.out)
          have HAv_7 := Lib.hid (HAv_6.out.go hB HLv_s.out)
          have HB7 := Lib.hid (HB6.out.trans (hB.mono HZs.out))
          have c7_0 : W7.cell? ⟨r, 0, none⟩ = some (.string u) := blk_cell (blk_below HR.out HB7.out) 0
          have c7_1 : W7.cell? ⟨r, 1, none⟩ = some (.string o) := blk_cell (blk_below HR.out HB7.out) 1
          have c7_2 : W7.cell? ⟨r, 2, none⟩ = some (.string f) := blk_cell (blk_below HR.out HB7.out) 2
          clear hA hB)
       | (with_reducible refine (app_at HAv_7.out HAs_7.out HLv_s.out HT3.out HT6.out (by decide) (by decide)).mono ?_
          rintro e W8 ⟨⟨u8_, rfl⟩, hA, hB⟩
          have HAv_8 := Lib.hid hA
          have HAp_8 := Lib.hid (HAp_7.out.go hB HLp_v.out)
          have HB8 := Lib.hid (HB7.out.trans (hB.mono HZv.out))
          clear hA hB)
       | (with_reducible refine (app_at HAp_8.out HAv_8.out HLp_v.out HT2.out HT7.out (by decide) (by decide)).mono ?_
          rintro e W9 ⟨⟨u9_, rfl⟩, hA, hB⟩
          have HAp_9 := Lib.hid hA
          have HB9 := Lib.hid (HB8.out.trans (hB.mono HZp.out))
          clear hA hB)
       | (with_reducible refine (app_at (HE.out.on HB9.out) HAp_9.out HZp.out TE.out HT8.out (by omega) (by decide)).mono ?_
          rintro e W10 ⟨⟨u10_, rfl⟩, hA, hB⟩
          have HAE := Lib.hid hA
          have HBE := Lib.hid ((HB9.out.mono HE.out.le).trans hB)
          clear hA hB)))
  go_ret
  exact ⟨rfl, HAE.out, HBE.out⟩

/-- the request as data -/
def dPassEET (u : ByteArray) (o : ByteArray) (f : ByteArray) : S27 := ⟨1, 23, true, [], [⟨2, 0, false, bytesOf zz0, []⟩, ⟨2, 1, false, pkBytes 0 16 true (pkBytes 2 2 false (bytesOf f)), []⟩]⟩
theorem tr_PassEET (u : ByteArray) (o : ByteArray) (f : ByteArray) : trOf (pPassEET u o f) = dPassEET u o f := by
  unfold pPassEET dPassEET addK bare prim
  simp [trOf, trL]
theorem iPassEET_any (u o f : ByteArray) (w : World) (hu : u.size ≤ 1000000) (ho : o.size ≤ 1000000) (hf : f.size ≤ 1000000) (eu : u.toList.isEmpty = true) (eo : o.toList.isEmpty = true) (ef : f.toList.isEmpty = false) :
    Calls Tryd.prog 26 #[.string u, .string o, .string f] w (OpRes w (dPassEET u o f)) :=
  iPass_of _ _ u o f w (tr_PassEET u o f) ((pPassEET_fine u o f hu ho hf).ok (by decide)) (fun W hr hs q E n W' hE tE hn hb => appendTo_PassEET u o f hu ho hf eu eo ef (w.heap.size + 1) W.heap.size q n E W' hE tE hn (blk_below hr hb) (by omega))

/-- the request as a packet -/
def pPassEEE (u : ByteArray) (o : ByteArray) (f : ByteArray) : Pk := (addK (addK (bare 64 32 23 .nilIface zz1) (prim 128 0 0 (strV zz0) (bytesOf zz0) zz2)) (addK (bare 128 0 1 .nilIface zz3) (bare 0 32 16 .nilIface zz4)))
theorem pPassEEE_fine (u : ByteArray) (o : ByteArray) (f : ByteArray) (hu : u.size ≤ 1000000) (ho : o.size ≤ 1000000) (hf : f.size ≤ 1000000) : Fine (pPassEEE u o f) 1000042 := (fine_add (fine_add (fine_bare _ _ _ _ _ (by decide) (by decide) (by decide) (Or.inr rfl) (by decide) (by decide)) (fine_str (n := 1000000) _ _ _ _ _ (by decide) (by decide) (by decide) (Or.inl rfl) (by decide) (by decide) (by decide)) (by decide)) (fine_add (fine_bare _ _ _ _ _ (by decide) (by decide) (by decide) (Or.inl rfl) (by decide) (by decide)) (fine_bare _ _ _ _ _ (by decide) (by decide) (by decide) (Or.inr rfl) (by decide) (by decide)) (by decide)) (by decide))
set_option maxHeartbeats 3200000 in
set_option maxRecDepth 100000 in
theorem appendTo_PassEEE (u : ByteArray) (o : ByteArray) (f : ByteArray) (hu : u.size ≤ 1000000) (ho : o.size ≤ 1000000) (hf : f.size ≤ 1000000) (eu : u.toList.isEmpty = true) (eo : o.toList.isEmpty = true) (ef : f.toList.isEmpty = true) (r base q n : Nat) (E : Pk) (w : World) (hE : At w w base q E) (tE : Top E n) (hn : n < 100000000000)
    (hr : w.heap[r]? = some (.cells #[.string u, .string o, .string f] 170 (0, 0))) (hrb : r < base) :
    Calls Tryd.prog 145 #[.pointer (some ⟨r, 0, none⟩), .pointer (some ⟨q, 0, none⟩)] w fun e w' => e = .returned .nilIface ∧ At w' w' base q (addK E (pPassEEE u o f)) ∧ Below base w w' := by
  have HE := Lib.hid hE
  have TE := Lib.hid tE
  have HR := Lib.hid hr
  have HRB := Lib.hid hrb
  have HT0 : Hid (Top (bare 64 32 23 .nilIface zz1) 0) := Lib.hid ((fine_bare _ _ _ _ _ (by decide) (by decide) (by decide) (Or.inr rfl) (by decide) (by decide))).1
  have HT1 : Hid (Top (prim 128 0 0 (strV zz0) (bytesOf zz0) zz2) 1000000) := Lib.hid ((fine_str (n := 1000000) _ _ _ _ _ (by decide) (by decide) (by decide) (Or.inl rfl) (by decide) (by decide) (by decide))).1
  have HT2 : Hid (Top (addK (bare 64 32 23 .nilIface zz1) (prim 128 0 0 (strV zz0) (bytesOf zz0) zz2)) 1000014) := Lib.hid ((fine_add (fine_bare _ _ _ _ _ (by decide) (by decide) (by decide) (Or.inr rfl) (by decide) (by decide)) (fine_str (n := 1000000) _ _ _ _ _ (by decide) (by decide) (by decide) (Or.inl rfl) (by decide) (by decide) (by decide)) (by decide))).1
  have HT3 : Hid (Top (bare 128 0 1 .nilIface zz3) 0) := Lib.hid ((fine_bare _ _ _ _ _ (by decide) (by decide) (by decide) (Or.inl rfl) (by decide) (by decide))).1
  have HT4 : Hid (Top (bare 0 32 16 .nilIface zz4) 0) := Lib.hid ((fine_bare _ _ _ _ _ (by decide) (by decide) (by decide) (Or.inr rfl) (by decide) (by decide))).1
  have HT5 : Hid (Top (addK (bare 128 0 1 .nilIface zz3) (bare 0 32 16 .nilIface zz4)) 14) := Lib.hid ((fine_add (fine_bare _ _ _ _ _ (by decide) (by decide) (by decide) (Or.inl rfl) (by decide) (by decide)) (fine_bare _ _ _ _ _ (by decide) (by decide) (by decide) (Or.inr rfl) (by decide) (by decide)) (by decide))).1
  have HT6 : Hid (Top (addK (addK (bare 64 32 23 .nilIface zz1) (prim 128 0 0 (strV zz0) (bytesOf zz0) zz2)) (addK (bare 128 0 1 .nilIface zz3) (bare 0 32 16 .nilIface zz4))) 1000042) := Lib.hid ((fine_add (fine_add (fine_bare _ _ _ _ _ (by decide) (by decide) (by decide) (Or.inr rfl) (by decide) (by decide)) (fine_str (n := 1000000) _ _ _ _ _ (by decide) (by decide) (by decide) (Or.inl rfl) (by decide) (by decide) (by decide)) (by decide)) (fine_add (fine_bare _ _ _ _ _ (by decide) (by decide) (by decide) (Or.inl rfl) (by decide) (by decide)) (fine_bare _ _ _ _ _ (by decide) (by decide) (by decide) (Or.inr rfl) (by decide) (by decide)) (by decide)) (by decide))).1
  have HS : Hid (u.size ≤ 140737488355328 ∧ o.size ≤ 140737488355328 ∧ f.size ≤ 140737488355328 ∧ ByteArray.empty.size ≤ 140737488355328) := Lib.hid (⟨by omega, by omega, by omega, by decide⟩)
  clear hE tE hr hrb hu ho hf
  go_enter Tryd.func145, Tryd.ntmps145
  go_wp2_with (first
    | (go_at_call 87
       first
       | (with_reducible refine (encode_at 64 32 23 _ w).mono ?_
          rintro e W1 ⟨qp, rfl, hA, hB⟩
          have HAp_1 := Lib.hid hA
          have HZp : Hid (w.heap.size ≤ w.heap.size) := Lib.hid (Nat.le_refl _)
          have HB1 := Lib.hid (hB)
          clear hA hB)
       | (with_reducible refine (encode_at 128 0 1 _ W3).mono ?_
          rintro e W4 ⟨qv, rfl, hA, hB⟩
          have HAv_4 := Lib.hid hA
          have HLp_v := Lib.hid HAp_3.out.bel.size
          have HZv : Hid (w.heap.size ≤ W3.heap.size) := Lib.hid (HB3.out.size)
          have HAp_4 := Lib.hid (HAp_3.out.on hB)
          have HB4 := Lib.hid (HB3.out.trans (hB.mono HB3.out.size))
          clear hA hB)
       | (with_reducible refine (encode_at 0 32 16 _ W4).mono ?_
          rintro e W5 ⟨qs, rfl, hA, hB⟩
          have HAs_5 := Lib.hid hA
          have HLp_s := Lib.hid HAp_4.out.bel.size
          have HLv_s := Lib.hid HAv_4.out.bel.size
          have HZs : Hid (w.heap.size ≤ W4.heap.size) := Lib.hid (HB4.out.size)
          have HAp_5 := Lib.hid (HAp_4.out.on hB)
          have HAv_5 := Lib.hid (HAv_4.out.on hB)
          have HB5 := Lib.hid (HB4.out.trans (hB.mono HB4.out.size))
          have c5_0 : W5.cell? ⟨r, 0, none⟩ = some (.string u) := blk_cell (blk_below HR.out HB5.out) 0
          have c5_1 : W5.cell? ⟨r, 1, none⟩ = some (.string o) := blk_cell (blk_below HR.out HB5.out) 1
          have c5_2 : W5.cell? ⟨r, 2, none⟩ = some (.string f) := blk_cell (blk_below HR.out HB5.out) 2
          clear hA hB))
    | (go_at_call 62
       first
       | (with_reducible refine (string_at 128 0 0 zz0 _ W1 (by decide)).mono ?_
          rintro e W2 ⟨qc1, rfl, hA, hB⟩
          have HAc1_2 := Lib.hid hA
          have HLp_c1 := Lib.hid HAp_1.out.bel.size
          have HAp_2 := Lib.hid (HAp_1.out.on hB)
          have HB2 := Lib.hid (HB1.out.trans (hB.mono HB1.out.size))
          clear hA hB))
    | (go_at_call 93
       first
       | (with_reducible refine (app_at HAp_2.out HAc1_2.out HLp_c1.out HT0.out HT1.out (by decide) (by decide)).mono ?_
          rintro e W3 ⟨⟨u3_, rfl⟩, hA, hB⟩
          have HAp_3 := Lib.hid hA
          have HB3 := Lib.hid (HB2.out.trans (hB.mono HZp.out))
          clear hA hB)
       | (with_reducible refine (app_at HAv_5.out HAs_5.out HLv_s.out HT3.out HT4.out (by decide) (by decide)).mono ?_
          rintro e W6 ⟨⟨u6_, rfl⟩, hA, hB⟩
          have HAv_6 := Lib.hid hA
          have HAp_6 := Lib.hid (HAp_5.out.go hB HLp_v.out)
          have HB6 := Lib.hid (HB5.out.trans (hB.mono HZv.out))
          clear hA hB)
       | (with_reducible refine (app_at HAp_6.out HAv_6.out HLp_v.out HT2.out HT5.out (by decide) (by decide)).mono ?_
          rintro e W7 ⟨⟨u7_, rfl⟩, hA, hB⟩
          have HAp_7 := Lib.hid hA
          have HB7 := Lib.hid (HB6.out.trans (hB.mono HZp.out))
          clear hA hB)
       | (with_reducible refine (app_at (HE.out.on HB7.out) HAp_7.out HZp.out TE.out HT6.out (by omega) (by decide)).mono ?_
          rintro e W8 ⟨⟨u8_, rfl⟩, hA, hB⟩
          have HAE := Lib.hid hA
          have HBE := Lib.hid ((HB7.out.mono HE.out.le).trans hB)
          clear hA hB)))
  go_ret
  exact ⟨rfl, HAE.out, HBE.out⟩

/-- the request as data -/
def dPassEEE (u : ByteArray) (o : ByteArray) (f : ByteArray) : S27 := ⟨1, 23, true, [], [⟨2, 0, false, bytesOf zz0, []⟩, ⟨2, 1, false, pkBytes 0 16 true ([]), []⟩]⟩
theorem tr_PassEEE (u : ByteArray) (o : ByteArray) (f : ByteArray) : trOf (pPassEEE u o f) = dPassEEE u o f := by
  unfold pPassEEE dPassEEE addK bare prim
  simp [trOf, trL]
theorem iPassEEE_any (u o f : ByteArray) (w : World) (hu : u.size ≤ 1000000) (ho : o.size ≤ 1000000) (hf : f.size ≤ 1000000) (eu : u.toList.isEmpty = true) (eo : o.toList.isEmpty = true) (ef : f.toList.isEmpty = true) :
    Calls Tryd.prog 26 #[.string u, .string o, .string f] w (OpRes w (dPassEEE u o f)) :=
  iPass_of _ _ u o f w (tr_PassEEE u o f) ((pPassEEE_fine u o f hu ho hf).ok (by decide)) (fun W hr hs q E n W' hE tE hn hb => appendTo_PassEEE u o f hu ho hf eu eo ef (w.heap.size + 1) W.heap.size q n E W' hE tE hn (blk_below hr hb) (by omega))

/-- the kids' bytes -/
def flP (t : ByteArray) (i : Int) : List Int := if t.toList.isEmpty then [] else pkBytes 2 i false (bytesOf t)
/-- the request to change a password as data -/
def dPass (u o f : ByteArray) : S27 := ⟨1, 23, true, [], [⟨2, 0, false, bytesOf ⟨#[49, 46, 51, 46, 54, 46, 49, 46, 52, 46, 49, 46, 52, 50, 48, 51, 46, 49, 46, 49, 49, 46, 49]⟩, []⟩, ⟨2, 1, false, pkBytes 0 16 true (flP u 0 ++ flP o 1 ++ flP f 2), []⟩]⟩
theorem iPass_any (u o f : ByteArray) (w : World) (hu : u.size ≤ 1000000) (ho : o.size ≤ 1000000) (hf : f.size ≤ 1000000) :
    Calls Tryd.prog 26 #[.string u, .string o, .string f] w (OpRes w (dPass u o f)) := by
  cases eu : u.toList.isEmpty <;> cases eo : o.toList.isEmpty <;> cases ef : f.toList.isEmpty
  · have h := iPassTTT_any u o f w hu ho hf eu eo ef
    have e : dPassTTT u o f = dPass u o f := by simp [dPassTTT, dPass, flP, eu, eo, ef]
    rwa [e] at h
  · have h := iPassTTE_any u o f w hu ho hf eu eo ef
    have e : dPassTTE u o f = dPass u o f := by simp [dPassTTE, dPass, flP, eu, eo, ef]
    rwa [e] at h
  · have h := iPassTET_any u o f w hu ho hf eu eo ef
    have e : dPassTET u o f = dPass u o f := by simp [dPassTET, dPass, flP, eu, eo, ef]
    rwa [e] at h
  · have h := iPassTEE_any u o f w hu ho hf eu eo ef
    have e : dPassTEE u o f = dPass u o f := by simp [dPassTEE, dPass, flP, eu, eo, ef]
    rwa [e] at h
  · have h := iPassETT_any u o f w hu ho hf eu eo ef
    have e : dPassETT u o f = dPass u o f := by simp [dPassETT, dPass, flP, eu, eo, ef]
    rwa [e] at h
  · have h := iPassETE_any u o f w hu ho hf eu eo ef
    have e : dPassETE u o f = dPass u o f := by simp [dPassETE, dPass, flP, eu, eo, ef]
    rwa [e] at h
  · have h := iPassEET_any u o f w hu ho hf eu eo ef
    have e : dPassEET u o f = dPass u o f := by simp [dPassEET, dPass, flP, eu, eo, ef]
    rwa [e] at h
  · have h := iPassEEE_any u o f w hu ho hf eu eo ef
    have e : dPassEEE u o f = dPass u o f := by simp [dPassEEE, dPass, flP, eu, eo, ef]
    rwa [e] at h
end Go.Proofs.YtbmcpjkhnhbjdaaDoor.Ber
