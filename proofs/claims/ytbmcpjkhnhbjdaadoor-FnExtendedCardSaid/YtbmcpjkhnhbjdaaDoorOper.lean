/- impl.safely: a closure that returns a truth value is run; recover finds nothing. · ldap.Envelope at the number 0: the message's number and the request are its children. The request's own method appends one child. · impl.operation: the request's packet as data. · impl.operation: the request's packet as data, and true. -/
import Derived.Test.YtbmcpjkhnhbjdaaDoorAppend
import Derived.Recover
import Derived.Defers
import Derived.Test.YtbmcpjkhnhbjdaaDoorEncStr
import Derived.Test.YtbmcpjkhnhbjdaaDoorNewInt
import Derived.Test.YtbmcpjkhnhbjdaaDoorUnpk
namespace Go.Proofs.YtbmcpjkhnhbjdaaDoor.Ber
open Go.RowKit Go.Proofs.YtbmcpjkhnhbjdaaDoorW.PrintWords Go.Proofs.YtbmcpjkhnhbjdaaDoor.Buf Go.Proofs.YtbmcpjkhnhbjdaaDoor.Pk
set_option linter.unusedVariables false
set_option linter.unusedSimpArgs false

theorem catch_idle (p : Addr) (w : World) :
    CallsD Tryd.prog 92 #[.pointer (some p)] .returning w fun e u' w' => e = .returned (.tuple #[]) ∧ u' = .returning ∧ w' = w := by
  refine callsD_of_wpS Tryd.func92 rfl fun c₀ cs hu => ?_
  apply wpS_seq
  apply wpS_region
  simp [wpOpsS, go_sem, recoverD, hu, Tryd.ntmps92, Exit.thenS]
  refine wpS_cond (t := false) (by simp [Act.eval, Array.replicate]) ?_
  simp only [Bool.false_eq_true, if_false]
  refine wpS_of_wp (wp_skip ?_)
  cases c₀
  simp_all [bodyPostS, results, Tryd.results92]

set_option maxHeartbeats 1600000 in
set_option maxRecDepth 100000 in
/-- safely: what the closure answers, and the memory as it left it. -/
theorem safely_any (cap : Array Value) (b : Bool) (Q : World → Prop) (w : World)
    (h : ∀ W, W = w.alloc (.cells #[.bool false] 4) → Calls Tryd.prog 84 cap W fun e w' => e = .returned (.bool b) ∧ Q w' ∧ w'.heap[w.heap.size]? = some (.cells #[.bool false] 4 (0, 0))) :
    Calls Tryd.prog 77 #[.func (.func 84) #[] cap] w fun e w' => e = .returned (.bool b) ∧ ∃ W, Q W ∧ w' = W.setCell ⟨w.heap.size, 0, none⟩ (.bool b) := by
  have hmf : ∀ (fn : Fn) (first cap : Array Value) (w : World), (Instr.makeFunc fn first cap).run Tryd.prog w = .ok (.func fn first cap) w := fun _ _ _ _ => rfl
  obtain ⟨W1, hW1⟩ : ∃ W1, W1 = w.alloc (.cells #[.bool false] 4) := ⟨_, rfl⟩
  have HC := Lib.hid (h W1 hW1)
  clear h
  go_enter_defers Tryd.func77, Tryd.ntmps77
  go_wp2_with (go_at_call 84
               rw [← hW1]
               with_reducible refine HC.out.mono ?_
               rintro e W2 ⟨rfl, hQ, hx⟩
               have c0 : W2.cell? ⟨w.heap.size, 0, none⟩ = some (.bool false) := blk_cell hx 0
               have f0 := blk_frozen hx 0)
  refine leaves_cons (f := 92) (args := #[.pointer (some ⟨w.heap.size, 0, none⟩)]) (by simp) (by simp [go_sem]) ?_
  refine (catch_idle ⟨w.heap.size, 0, none⟩ _).mono ?_
  rintro e u' w'' ⟨rfl, rfl, rfl⟩
  have h5 := blk_set hx 0 (.bool b)
  have c5 := blk_cell h5 0
  simp at c5
  simp [Leaves, settle, results, Tryd.results77, go_sem, c5]
  exact ⟨W2, hQ, rfl⟩
end Go.Proofs.YtbmcpjkhnhbjdaaDoor.Ber

namespace Go.Proofs.YtbmcpjkhnhbjdaaDoor.Ber
open Go.RowKit Go.Proofs.YtbmcpjkhnhbjdaaDoorW.PrintWords Go.Proofs.YtbmcpjkhnhbjdaaDoor.Buf Go.Proofs.YtbmcpjkhnhbjdaaDoor.Pk Go.Proofs.YtbmcpjkhnhbjdaaDoor.Num
set_option linter.unusedVariables false
set_option linter.unusedSimpArgs false

/-- the envelope before the request -/
def env0 (n : Int) : Pk := addK (bare 0 32 16 .nilIface ⟨#[76, 68, 65, 80, 32, 82, 101, 113, 117, 101, 115, 116]⟩) (prim 0 0 2 (.iface 2 (.int .i64 n)) (whole n) ⟨#[77, 101, 115, 115, 97, 103, 101, 73, 68]⟩)

theorem env0_top (n : Int) (h : -9223372036854775808 ≤ n ∧ n ≤ 9223372036854775807) : Top (env0 n) 30 := by
  have s1 : Top (bare 0 32 16 .nilIface ⟨#[76, 68, 65, 80, 32, 82, 101, 113, 117, 101, 115, 116]⟩) 0 := bare_top _ _ _ _ _ (by decide) (by decide) (by decide) (Or.inr rfl) (by decide) (by decide)
  have s2 : Top (prim 0 0 2 (.iface 2 (.int .i64 n)) (whole n) ⟨#[77, 101, 115, 115, 97, 103, 101, 73, 68]⟩) 8 := prim_top _ _ _ _ _ _ (by decide) (by decide) (by decide) (Or.inl rfl) (by decide) (by decide) (by have := wl_le8 n h; rw [whole, be_length]; exact this)
  exact (addK_top s1 s2 (by decide)).le (by decide)

/-- what a request's method does to an envelope: one child more -/
def Appends (F : FuncId) (v : Value) (x : Pk) (w : World) : Prop :=
  ∀ (q : Nat) (E : Pk) (n : Nat) (W : World), At W W w.heap.size q E → Top E n → n < 100000000000 → Below w.heap.size w W → Calls Tryd.prog F #[v, .pointer (some ⟨q, 0, none⟩)] W fun e w' => e = .returned .nilIface ∧ At w' w' w.heap.size q (addK E x) ∧ Below w.heap.size W w'

set_option maxHeartbeats 3200000 in
set_option maxRecDepth 100000 in
theorem envelope_any (T F : Nat) (v : Value) (x : Pk) (id : Int) (w : World) (hid : -9223372036854775808 ≤ id ∧ id ≤ 9223372036854775807)
    (hta : ∀ w : World, (Instr.typeAssert (.iface T v) 20 200 true).run Tryd.prog w = .ok (.tuple #[.iface T v, .bool true]) w)
    (hm : ∀ w : World, (method 366 T v "goldap/pub/goldap.appendTo").run Tryd.prog w = .ok (F, v) w)
    (hcf : ∀ (args : Array Value) (w : World), (callFunc F args).run Tryd.prog w = .ok (.enter F args) w)
    (happ : Appends F v x w) :
    Calls Tryd.prog 81 #[.int .i64 id, .iface T v] w fun e w' => ∃ q, e = .returned (.pointer (some ⟨q, 0, none⟩)) ∧ At w' w' w.heap.size q (addK (env0 id) x) ∧ Below w.heap.size w w' := by
  have HAPP := Lib.hid happ
  have HID := Lib.hid hid
  have HTOP := Lib.hid (env0_top id hid)
  have s1 : Top (bare 0 32 16 .nilIface ⟨#[76, 68, 65, 80, 32, 82, 101, 113, 117, 101, 115, 116]⟩) 0 := bare_top _ _ _ _ _ (by decide) (by decide) (by decide) (Or.inr rfl) (by decide) (by decide)
  have s2 : Top (prim 0 0 2 (.iface 2 (.int .i64 id)) (whole id) ⟨#[77, 101, 115, 115, 97, 103, 101, 73, 68]⟩) 8 := prim_top _ _ _ _ _ _ (by decide) (by decide) (by decide) (Or.inl rfl) (by decide) (by decide) (by have := wl_le8 id hid; rw [whole, be_length]; exact this)
  have HT := Lib.hid (And.intro s1 s2)
  clear happ hid s1 s2
  go_enter Tryd.func81, Tryd.ntmps81
  go_wp2_with (first
    | (go_at_call 87
       with_reducible refine (encode_at 0 32 16 _ w).mono ?_
       rintro e W1 ⟨q, rfl, hA1, hB1⟩
       have HA1 := Lib.hid hA1
       have HB1 := Lib.hid hB1
       clear hA1 hB1)
    | (go_at_call 103
       with_reducible refine (newInt_i64 0 0 2 id _ W1 HID.out).mono ?_
       rintro e W2 h2
       obtain ⟨q2, rfl, hA2, hB2⟩ := h2.at
       have HC2 := Lib.hid (app_at (HA1.out.on hB2) hA2 (Nat.le_refl _) HT.out.1 HT.out.2 (by decide) (by decide))
       have HB2 := Lib.hid (HB1.out.trans (hB2.mono HB1.out.size))
       clear h2 hA2 hB2 HA1 HB1)
    | (go_at_call 93
       with_reducible refine HC2.out.mono ?_
       rintro e W3 ⟨⟨u, rfl⟩, hA3, hB3⟩
       have hb3 := HB2.out.trans hB3
       have HC3 := Lib.hid (HAPP.out q _ _ W3 hA3 HTOP.out (by decide) hb3)
       have HB3 := Lib.hid hb3
       clear hA3 hB3 hb3 HC2 HB2)
    | (with_reducible refine HC3.out.mono ?_
       rintro e W4 ⟨rfl, hA4, hB4⟩
       have HA4 := Lib.hid hA4
       have HB4 := Lib.hid (HB3.out.trans hB4)
       clear hA4 hB4 HC3 HB3))
  go_ret
  exact ⟨q, rfl, HA4.out, HB4.out⟩
end Go.Proofs.YtbmcpjkhnhbjdaaDoor.Ber

namespace Go.Proofs.YtbmcpjkhnhbjdaaDoor.Ber
open Go.RowKit Go.Proofs.YtbmcpjkhnhbjdaaDoorW.PrintWords Go.Proofs.YtbmcpjkhnhbjdaaDoor.Buf Go.Proofs.YtbmcpjkhnhbjdaaDoor.Pk Go.Proofs.YtbmcpjkhnhbjdaaDoor.Num Go.Proofs.YtbmcpjkhnhbjdaaDoor.PFnEncode
set_option linter.unusedVariables false
set_option linter.unusedSimpArgs false

/-- the five cells were stored -/
theorem store5 {W W3 : World} {g : Nat} {z0 z1 z2 z3 z4 v0 v1 v2 v3 v4 : Value} (h : W.heap[g]? = some (.cells #[z0, z1, z2, z3, z4] 27 (0, 0)))
    (hW3 : W3 = (((((W.setCell ⟨g, 0, none⟩ v0).setCell ⟨g, 1, none⟩ v1).setCell ⟨g, 2, none⟩ v2).setCell ⟨g, 3, none⟩ v3).setCell ⟨g, 4, none⟩ v4)) :
    W3.heap[g]? = some (.cells #[v0, v1, v2, v3, v4] 27 (0, 0)) ∧ Only (fun i => i = g) W W3 := by
  subst hW3
  exact ⟨blk_set (blk_set (blk_set (blk_set (blk_set h 0 v0) 1 v1) 2 v2) 3 v3) 4 v4,
    (((((Only.refl (fun i => i = g) W).setCell (a := ⟨g, 0, none⟩) (fun _ => rfl) _).setCell (a := ⟨g, 1, none⟩) (fun _ => rfl) _).setCell (a := ⟨g, 2, none⟩) (fun _ => rfl) _).setCell (a := ⟨g, 3, none⟩) (fun _ => rfl) _).setCell (a := ⟨g, 4, none⟩) (fun _ => rfl) _⟩

set_option maxHeartbeats 3200000 in
set_option maxRecDepth 100000 in
theorem closure_any (T F : Nat) (v : Value) (x : Pk) (a g : Nat) (W : World)
    (hta : ∀ w : World, (Instr.typeAssert (.iface T v) 20 200 true).run Tryd.prog w = .ok (.tuple #[.iface T v, .bool true]) w)
    (hm : ∀ w : World, (method 366 T v "goldap/pub/goldap.appendTo").run Tryd.prog w = .ok (F, v) w)
    (hcf : ∀ (args : Array Value) (w : World), (callFunc F args).run Tryd.prog w = .ok (.enter F args) w)
    (happ : Appends F v x W) (hx : okP x)
    (hreq : W.heap[a]? = some (.cells #[.iface T v] 20 (0, 0))) (hp : W.heap[g]? = some (.cells #[.int .i64 0, .int .i64 0, .bool false, .slice none 0 0, .slice none 0 0] 27 (0, 0))) :
    Calls Tryd.prog 84 #[.pointer (some ⟨a, 0, none⟩), .pointer (some ⟨g, 0, none⟩)] W fun e w' => e = .returned (.bool true) ∧
      (∃ A3 c3 A4 c4, w'.heap[g]? = some (.cells #[.int .i64 (trOf x).f0, .int .i64 (trOf x).f1, .bool (trOf x).f2, .slice A3 (trOf x).f3.length c3, .slice A4 (trOf x).f4.length c4] 27 (0, 0)) ∧ B8.R 5 w' W.heap.size (fun _ => True) (.slice A3 (trOf x).f3.length c3) (trOf x).f3 ∧ k27.R 27 w' W.heap.size (fun _ => True) (.slice A4 (trOf x).f4.length c4) (trOf x).f4) ∧ Only (fun i => i = g) W w' := by
  have HE := Lib.hid (envelope_any T F v x 0 W (by decide) hta hm hcf happ)
  have c0 : W.cell? ⟨a, 0, none⟩ = some (.iface T v) := blk_cell hreq 0
  have HP := Lib.hid hp
  have HX := Lib.hid hx
  have hgw := Lib.hid (blk_lt hp)
  clear hta hm hcf happ hreq hp hx
  go_enter Tryd.func84, Tryd.ntmps84
  go_wp2_with (first
    | (go_at_call 81
       with_reducible refine HE.out.mono ?_
       rintro e W1 ⟨q, rfl, hA, hB⟩
       obtain ⟨db, vv, bv, cv, P⟩ := parts_of hA.is
       obtain ⟨ad, cap, q2, hsl, hcell, hkid⟩ := kid_at0 P.rk (k := 1) (by show 1 < 2; decide)
       have c6 : W1.cell? ⟨q, 6, none⟩ = some (.slice (some ⟨ad, 0, none⟩) 2 cap) := by
         have := P.cell 6
         rw [hsl] at this
         exact this
       have HU := Lib.hid (unpk_any (dp x) x (Nat.le_refl _) HX.out q2 _ _ W1 hkid)
       have HP1 := Lib.hid (blk_below HP.out hB)
       have HB1 := Lib.hid hB
       clear hA hB P hsl hkid HE)
    | (go_at_call 82
       with_reducible refine HU.out.mono ?_
       rintro e W2 ⟨c, rfl, hM, hB2⟩
       obtain ⟨v3, v4, rfl, r3, r4⟩ := k27_openM hM
       obtain ⟨A3, c3, h3⟩ := Kd.R_slice r3
       obtain ⟨A4, c4, h4⟩ := Kd.R_slice r4
       subst h3
       subst h4
       have HP2 := Lib.hid (blk_below HP1.out hB2)
       have HB2 := Lib.hid (HB1.out.trans (hB2.mono HB1.out.size))
       have HS1 := Lib.hid HB1.out.size
       have k0 : W2.cell? ⟨g, 0, none⟩ = some (.int .i64 0) := blk_cell HP2.out 0
       have k1 : W2.cell? ⟨g, 1, none⟩ = some (.int .i64 0) := blk_cell HP2.out 1
       have k2 : W2.cell? ⟨g, 2, none⟩ = some (.bool false) := blk_cell HP2.out 2
       have k3 : W2.cell? ⟨g, 3, none⟩ = some (.slice none 0 0) := blk_cell HP2.out 3
       have k4 : W2.cell? ⟨g, 4, none⟩ = some (.slice none 0 0) := blk_cell HP2.out 4
       have kf0 := blk_frozen HP2.out 0
       have kf1 := blk_frozen HP2.out 1
       have kf2 := blk_frozen HP2.out 2
       have kf3 := blk_frozen HP2.out 3
       have kf4 := blk_frozen HP2.out 4
       have HR3 := Lib.hid r3
       have HR4 := Lib.hid r4
       clear r3 r4 hM hB2 HU HP1 HB1 c6 hcell))
  obtain ⟨h5, ho5⟩ := store5 (v0 := .int .i64 (trOf x).f0) (v1 := .int .i64 (trOf x).f1) (v2 := .bool (trOf x).f2) (v3 := .slice A3 (trOf x).f3.length c3) (v4 := .slice A4 (trOf x).f4.length c4) HP2.out rfl
  go_ret
  refine ⟨rfl, ⟨A3, c3, A4, c4, h5, ?_, ?_⟩, (Only.of_below _ HB2.out).trans ho5 (fun _ _ h => h)⟩
  · exact Kd.R_lower (Kd.R_mono (Kd.R_move (Kd.R_bound HR3.out) (fun k hk => ho5.block k hk.2.2.1 (by have := hk.2.1; have := HS1.out; have := hgw.out; show ¬ k = g; omega))) (fun _ _ => trivial)) HS1.out
  · exact Kd.R_lower (Kd.R_mono (Kd.R_move (Kd.R_bound HR4.out) (fun k hk => ho5.block k hk.2.2.1 (by have := hk.2.1; have := HS1.out; have := hgw.out; show ¬ k = g; omega))) (fun _ _ => trivial)) HS1.out
end Go.Proofs.YtbmcpjkhnhbjdaaDoor.Ber

namespace Go.Proofs.YtbmcpjkhnhbjdaaDoor.Ber
open Go.RowKit Go.Proofs.YtbmcpjkhnhbjdaaDoorW.PrintWords Go.Proofs.YtbmcpjkhnhbjdaaDoor.Buf Go.Proofs.YtbmcpjkhnhbjdaaDoor.Pk Go.Proofs.YtbmcpjkhnhbjdaaDoor.Num Go.Proofs.YtbmcpjkhnhbjdaaDoor.PFnEncode
set_option linter.unusedVariables false
set_option linter.unusedSimpArgs false

/-- What a request's function of impl leaves: the packet as data, and true. -/
def OpRes (w : World) (y : S27) (e : Ending) (w' : World) : Prop :=
  ∃ A3 c3 A4 c4, e = .returned (.tuple #[.agg #[.int .i64 y.f0, .int .i64 y.f1, .bool y.f2, .slice A3 y.f3.length c3, .slice A4 y.f4.length c4], .bool true]) ∧ y.f3.length ≤ c3 ∧ Kd.F (Kd.int .u8) w' (fun k => w.heap.size ≤ k) A3 y.f3.length y.f3 ∧ y.f4.length ≤ c4 ∧ Kd.F k27 w' (fun k => w.heap.size ≤ k) A4 y.f4.length y.f4 ∧ Below w.heap.size w w'

/-- the end: the result's cells hold what they held -/
theorem op_end {w W W3 : World} {g B : Nat} {y : S27} {A3 A4 : Option Addr} {c3 c4 : Nat} {ok3 ok4 : Nat → Prop} {z0 z1 z2 z3 z4 : Value} (hb : Below w.heap.size w W) (hg : w.heap.size ≤ g) (hgB : g < B)
    (h : W.heap[g]? = some (.cells #[z0, z1, z2, z3, z4] 27 (0, 0)))
    (r3 : B8.R 5 W B ok3 (.slice A3 y.f3.length c3) y.f3) (r4 : k27.R 27 W B ok4 (.slice A4 y.f4.length c4) y.f4)
    (hW3 : W3 = (((((W.setCell ⟨g, 0, none⟩ (.int .i64 y.f0)).setCell ⟨g, 1, none⟩ (.int .i64 y.f1)).setCell ⟨g, 2, none⟩ (.bool y.f2)).setCell ⟨g, 3, none⟩ (.slice A3 y.f3.length c3)).setCell ⟨g, 4, none⟩ (.slice A4 y.f4.length c4))) :
    W3.heap[g]? = some (.cells #[.int .i64 y.f0, .int .i64 y.f1, .bool y.f2, .slice A3 y.f3.length c3, .slice A4 y.f4.length c4] 27 (0, 0)) ∧ OpRes w y (.returned (.tuple #[.agg #[.int .i64 y.f0, .int .i64 y.f1, .bool y.f2, .slice A3 y.f3.length c3, .slice A4 y.f4.length c4], .bool true])) W3 := by
  obtain ⟨h5, ho⟩ := store5 h hW3
  have q3 := Kd.R_move (Kd.R_bound r3) (fun k hk => ho.block k hk.2.2.1 (by have := hk.2.1; show ¬ k = g; omega))
  have q4 := Kd.R_move (Kd.R_bound r4) (fun k hk => ho.block k hk.2.2.1 (by have := hk.2.1; show ¬ k = g; omega))
  exact ⟨h5, A3, c3, A4, c4, rfl, (Kd.R_reads' q3).2.1, Kd.F_mono (Kd.R_F (Kd.R_bound q3)) (fun k hk => by have := hk.2.1; omega), (Kd.R_reads' q4).2.1, Kd.F_mono (Kd.R_F (Kd.R_bound q4)) (fun k hk => by have := hk.2.1; omega), hb.trans (ho.below hb.size (fun i hi => by omega))⟩

set_option maxHeartbeats 3200000 in
set_option maxRecDepth 100000 in
theorem operation_any (T F : Nat) (v : Value) (x : Pk) (w : World)
    (hta : ∀ w : World, (Instr.typeAssert (.iface T v) 20 200 true).run Tryd.prog w = .ok (.tuple #[.iface T v, .bool true]) w)
    (hm : ∀ w : World, (method 366 T v "goldap/pub/goldap.appendTo").run Tryd.prog w = .ok (F, v) w)
    (hcf : ∀ (args : Array Value) (w : World), (callFunc F args).run Tryd.prog w = .ok (.enter F args) w)
    (happ : ∀ W, Below w.heap.size w W → Appends F v x W) (hx : okP x) :
    Calls Tryd.prog 43 #[.iface T v] w (OpRes w (trOf x)) := by
  have hmf : ∀ (fn : Fn) (first cap : Array Value) (w : World), (Instr.makeFunc fn first cap).run Tryd.prog w = .ok (.func fn first cap) w := fun _ _ _ _ => rfl
  obtain ⟨W0, hW0⟩ : ∃ W0, W0 = (w.alloc (.cells #[.iface T v] 20)).alloc (.cells #[.int .i64 0, .int .i64 0, .bool false, .slice none 0 0, .slice none 0 0] 27) := ⟨_, rfl⟩
  have hs0 : W0.heap.size = w.heap.size + 1 + 1 := by rw [hW0]; simp
  have hb0 : Below w.heap.size w W0 := by rw [hW0]; exact below_alloc (below_alloc (Below.refl _ _) _) _
  have hr0 : W0.heap[w.heap.size]? = some (.cells #[.iface T v] 20 (0, 0)) := by rw [hW0]; exact blk_alloc (blk_new _ _) _
  have hp0 : W0.heap[w.heap.size + 1]? = some (.cells #[.int .i64 0, .int .i64 0, .bool false, .slice none 0 0, .slice none 0 0] 27 (0, 0)) := by
    have := blk_new (w.alloc (.cells #[.iface T v] 20)) (.cells #[.int .i64 0, .int .i64 0, .bool false, .slice none 0 0, .slice none 0 0] 27)
    have e : (w.alloc (.cells #[.iface T v] 20)).heap.size = w.heap.size + 1 := by simp
    rw [e, ← hW0] at this
    exact this
  have HS := Lib.hid (safely_any #[.pointer (some ⟨w.heap.size, 0, none⟩), .pointer (some ⟨w.heap.size + 1, 0, none⟩)] true
    (fun w' => (∃ A3 c3 A4 c4, w'.heap[w.heap.size + 1]? = some (.cells #[.int .i64 (trOf x).f0, .int .i64 (trOf x).f1, .bool (trOf x).f2, .slice A3 (trOf x).f3.length c3, .slice A4 (trOf x).f4.length c4] 27 (0, 0)) ∧ B8.R 5 w' (W0.heap.size + 1) (fun _ => True) (.slice A3 (trOf x).f3.length c3) (trOf x).f3 ∧ k27.R 27 w' (W0.heap.size + 1) (fun _ => True) (.slice A4 (trOf x).f4.length c4) (trOf x).f4) ∧ Below w.heap.size w w') W0
    (by
      intro W hW
      have hbW : Below w.heap.size w W := by rw [hW]; exact below_alloc hb0 _
      have hsW : W.heap.size = W0.heap.size + 1 := by rw [hW]; simp
      have hc := closure_any T F v x w.heap.size (w.heap.size + 1) W hta hm hcf (happ W hbW) hx (by rw [hW]; exact blk_alloc hr0 _) (by rw [hW]; exact blk_alloc hp0 _)
      rw [hsW] at hc
      refine hc.mono ?_
      rintro e w' ⟨rfl, hq, ho⟩
      refine ⟨rfl, ⟨hq, hbW.trans (ho.below hbW.size (fun i hi => by omega))⟩, ?_⟩
      have hbl : W.heap[W0.heap.size]? = some (.cells #[.bool false] 4 (0, 0)) := by rw [hW]; exact blk_new _ _
      exact (ho.block _ (by omega) (by show ¬ _ = w.heap.size + 1; omega)).trans hbl))
  have HS0 := Lib.hid hs0
  have HW0 := Lib.hid hW0
  clear hta hm hcf happ hx hb0 hr0 hp0 hs0 hW0
  go_enter Tryd.func43, Tryd.ntmps43
  go_wp2_with (go_at_call 77
               rw [← HW0.out]
               with_reducible refine HS.out.mono ?_
               rintro e w' ⟨rfl, W1, ⟨⟨A3, c3, A4, c4, hg, r3, r4⟩, hb1⟩, rfl⟩
               have hne : w.heap.size + 1 ≠ W0.heap.size := by have := HS0.out; omega
               have hg2 := blk_far hg (p := ⟨W0.heap.size, 0, none⟩) hne (.bool true)
               have r32 := Kd.R_far (Kd.R_mono (ok' := fun k => k ≠ W0.heap.size) (Kd.R_bound r3) (fun k hk => by have := hk.2.1; omega)) (p := ⟨W0.heap.size, 0, none⟩) (fun k hk => hk) (.bool true)
               have r42 := Kd.R_far (Kd.R_mono (ok' := fun k => k ≠ W0.heap.size) (Kd.R_bound r4) (fun k hk => by have := hk.2.1; omega)) (p := ⟨W0.heap.size, 0, none⟩) (fun k hk => hk) (.bool true)
               have hb2 : Below w.heap.size w (W1.setCell ⟨W0.heap.size, 0, none⟩ (.bool true)) := hb1.setCell (p := ⟨W0.heap.size, 0, none⟩) (by have := HS0.out; show w.heap.size ≤ W0.heap.size; omega) _
               obtain ⟨W2, hW2⟩ : ∃ W2, W2 = W1.setCell ⟨W0.heap.size, 0, none⟩ (.bool true) := ⟨_, rfl⟩
               rw [← hW2] at hg2 r32 r42 hb2 ⊢
               have HG2 := Lib.hid hg2
               have HR3 := Lib.hid r32
               have HR4 := Lib.hid r42
               have HB2 := Lib.hid hb2
               have k0 : W2.cell? ⟨w.heap.size + 1, 0, none⟩ = some (.int .i64 (trOf x).f0) := blk_cell hg2 0
               have k1 : W2.cell? ⟨w.heap.size + 1, 1, none⟩ = some (.int .i64 (trOf x).f1) := blk_cell hg2 1
               have k2 : W2.cell? ⟨w.heap.size + 1, 2, none⟩ = some (.bool (trOf x).f2) := blk_cell hg2 2
               have k3 : W2.cell? ⟨w.heap.size + 1, 3, none⟩ = some (.slice A3 (trOf x).f3.length c3) := blk_cell hg2 3
               have k4 : W2.cell? ⟨w.heap.size + 1, 4, none⟩ = some (.slice A4 (trOf x).f4.length c4) := blk_cell hg2 4
               have kf0 := blk_frozen hg2 0
               have kf1 := blk_frozen hg2 1
               have kf2 := blk_frozen hg2 2
               have kf3 := blk_frozen hg2 3
               have kf4 := blk_frozen hg2 4
               clear hg r3 r4 hb1 hg2 r32 r42 hb2 hW2 HS)
  try simp only [Exit.inBlock, Exit.then]
  obtain ⟨h5, hend⟩ := op_end HB2.out (by omega) (show w.heap.size + 1 < W0.heap.size + 1 by have := HS0.out; omega) HG2.out HR3.out HR4.out rfl
  exact bodyPost_ret (results_ct (p := 2) (u := 3) rfl _ _ _ _ _ _ _ rfl h5 Tryd.underlying27 rfl size_ip) rfl hend

theorem okP_top {y : Pk} {n : Nat} (h : Top y n) (hn : n < 1099511627776) (hk : okL y.kids) : okP y := by
  obtain ⟨cls, typ, tag, val, bv, data, kids, desc⟩ := y
  obtain ⟨c0, c1, cm, ty, t0, t1, ln, nk⟩ := h
  simp only at c0 c1 cm ty t0 t1 ln nk hk
  rw [okP]
  exact ⟨⟨c0, by omega⟩, ty, ⟨t0, t1⟩, by omega, by omega, hk⟩
theorem okL_nil : okL [] := by rw [okL]; trivial
theorem okL_snoc {l : List Pk} {y : Pk} (h : okL l) (hy : okP y) : okL (l ++ [y]) := by
  induction l with
  | nil => rw [List.nil_append, okL]; exact ⟨hy, okL_nil⟩
  | cons x xs ih => rw [okL] at h; rw [List.cons_append, okL]; exact ⟨h.1, ih h.2⟩

/-- a packet that can be a child, and so can all in it -/
def Fine (y : Pk) (n : Nat) : Prop := Top y n ∧ okL y.kids
theorem Fine.ok {y : Pk} {n : Nat} (h : Fine y n) (hn : n < 1099511627776) : okP y := okP_top h.1 hn h.2
theorem Fine.le {y : Pk} {n m : Nat} (h : Fine y n) (hm : n ≤ m) : Fine y m := ⟨h.1.le hm, h.2⟩
theorem fine_add {x y : Pk} {n m : Nat} (hx : Fine x n) (hy : Fine y m) (hm : m < 1000000000000) : Fine (addK x y) (n + 14 + m) := ⟨addK_top hx.1 hy.1 hm, okL_snoc hx.2 (hy.ok (by omega))⟩
theorem fine_bare (cls typ tag : Int) (val : Value) (desc : ByteArray) (h0 : 0 ≤ cls) (h1 : cls ≤ 192) (h2 : cls % 64 = 0) (h3 : typ = 0 ∨ typ = 32) (h4 : 0 ≤ tag) (h5 : tag < 268435456) : Fine (bare cls typ tag val desc) 0 := ⟨bare_top cls typ tag val desc h0 h1 h2 h3 h4 h5, okL_nil⟩
theorem fine_str (cls typ tag : Int) (s desc : ByteArray) (h0 : 0 ≤ cls) (h1 : cls ≤ 192) (h2 : cls % 64 = 0) (h3 : typ = 0 ∨ typ = 32) (h4 : 0 ≤ tag) (h5 : tag < 268435456) {n : Nat} (hn : s.size ≤ n) : Fine (prim cls typ tag (strV s) (bytesOf s) desc) n := ⟨prim_top cls typ tag _ _ desc h0 h1 h2 h3 h4 h5 (by rw [bytesOf_length]; exact hn), okL_nil⟩

/-- the end of a request's function: the operation's packet is laid into the result -/
theorem req_end {w W W3 : World} {g B : Nat} {y : S27} {A3 A4 : Option Addr} {c3 c4 : Nat} {z0 z1 z2 z3 z4 : Value} (hb : Below w.heap.size w W) (hg : w.heap.size ≤ g) (hwB : w.heap.size ≤ B) (hgB : ∀ k, B ≤ k → k ≠ g)
    (h : W.heap[g]? = some (.cells #[z0, z1, z2, z3, z4] 27 (0, 0)))
    (l3 : y.f3.length ≤ c3) (r3 : Kd.F (Kd.int .u8) W (fun k => B ≤ k) A3 y.f3.length y.f3) (l4 : y.f4.length ≤ c4) (r4 : Kd.F k27 W (fun k => B ≤ k) A4 y.f4.length y.f4)
    (hW3 : W3 = (((((W.setCell ⟨g, 0, none⟩ (.int .i64 y.f0)).setCell ⟨g, 1, none⟩ (.int .i64 y.f1)).setCell ⟨g, 2, none⟩ (.bool y.f2)).setCell ⟨g, 3, none⟩ (.slice A3 y.f3.length c3)).setCell ⟨g, 4, none⟩ (.slice A4 y.f4.length c4))) :
    W3.heap[g]? = some (.cells #[.int .i64 y.f0, .int .i64 y.f1, .bool y.f2, .slice A3 y.f3.length c3, .slice A4 y.f4.length c4] 27 (0, 0)) ∧ OpRes w y (.returned (.tuple #[.agg #[.int .i64 y.f0, .int .i64 y.f1, .bool y.f2, .slice A3 y.f3.length c3, .slice A4 y.f4.length c4], .bool true])) W3 := by
  obtain ⟨h5, ho⟩ := store5 h hW3
  have q3 := Kd.F_step r3 (fun k hk hlt => ho.block k hlt (hgB k hk))
  have q4 := Kd.F_step r4 (fun k hk hlt => ho.block k hlt (hgB k hk))
  exact ⟨h5, A3, c3, A4, c4, rfl, l3, Kd.F_mono q3 (fun k hk => Nat.le_trans hwB hk), l4, Kd.F_mono q4 (fun k hk => Nat.le_trans hwB hk), hb.trans (ho.below hb.size (fun i hi => by omega))⟩

end Go.Proofs.YtbmcpjkhnhbjdaaDoor.Ber
