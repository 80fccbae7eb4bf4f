/- Parts of the proof of one law, in the order in which they build. laws.FnResult answers true at every argument. -/
import Derived.Test.YteockihoefbmdaaGreatDoorRes1
import Derived.Test.YteockihoefbmdaaGreatDoorRes2
import Derived.Test.YteockihoefbmdaaGreatDoorRes3
import Derived.Test.YteockihoefbmdaaGreatDoorRes4
import Derived.Test.YteockihoefbmdaaGreatDoorRes5
import Derived.Test.YteockihoefbmdaaGreatDoorRes6
import Derived.Test.YteockihoefbmdaaGreatDoorRes7
import Derived.Test.YteockihoefbmdaaGreatDoorRes8
import Derived.Test.YteockihoefbmdaaGreatDoorRes9
import Derived.Test.YteockihoefbmdaaGreatDoorRes10
import Derived.Test.YteockihoefbmdaaGreatDoorRes11
import Derived.Test.YteockihoefbmdaaGreatDoorRes12
import Derived.Test.YteockihoefbmdaaGreatDoorRes13
namespace Go.Proofs.YteockihoefbmdaaGreatDoor.Ber
open Go.RowKit Go.Proofs.YteockihoefbmdaaGreatDoorW.PrintWords Go.Proofs.YteockihoefbmdaaGreatDoorW.PrintLast Go.Proofs.YteockihoefbmdaaGreatDoor.Buf Go.Proofs.YteockihoefbmdaaGreatDoor.Pk Go.Proofs.YteockihoefbmdaaGreatDoor.Tree Go.Proofs.YteockihoefbmdaaGreatDoor.Num Go.Proofs.YteockihoefbmdaaGreatDoor.Ident Go.Proofs.YteockihoefbmdaaGreatDoor.PFnEncode Go.Proofs.YteockihoefbmdaaGreatDoor.Within
set_option linter.unusedVariables false
set_option linter.unusedSimpArgs false

theorem resp_ex (t : Int) : ∃ b, spec_Response.f t = some b ∧ (b = true → 0 ≤ t ∧ t < 268435456) := by
  unfold spec_Response.f
  repeat' split
  all_goals first
    | exact ⟨true, rfl, fun _ => by omega⟩
    | (refine ⟨_, rfl, fun h => ?_⟩
       have := eq_of_beq h
       omega)
theorem resp_any (t : Int) (b : Bool) (h : spec_Response.f t = some b) (w : World) : Calls Tryz.prog 23 #[.int .i64 t] w fun e w' => e = .returned (.bool b) ∧ Below w.heap.size w w' := by
  refine (spec_Response.calls t b w h).mono ?_
  rintro e w' ⟨rfl, ⟨nd, rfl⟩⟩
  exact ⟨rfl, pw_below_drewN (Below.refl _ _) _⟩
set_option maxHeartbeats 3200000 in
set_option maxRecDepth 100000 in
theorem fnResult_any (id tag code : Int) (ma me : ByteArray) (w : World) (hid : -9223372036854775808 ≤ id ∧ id ≤ 9223372036854775807) (va ua : Addr) (hE : EofAt w va ua) :
    Calls Tryz.prog 6 #[.int .i64 id, .int .i64 tag, .int .i64 code, .string ma, .string me] w fun e w' => e = .returned (.bool true) ∧ Below w.heap.size w w' := by
  have HB := Lib.hid (Below.refl w.heap.size w)
  by_cases h0 : 2147483647 < ma.size
  · have e1 : decide (2147483647 < (ma.size : Int)) = true := decide_eq_true (by omega)
    have e2 : decide (2147483647 < ma.size) = true := decide_eq_true h0
    clear h0 hE
    go_enter Tryz.func6, Tryz.ntmps6
    go_wp2
    go_ret
    exact ⟨rfl, HB.out⟩
  have e0_1 : decide (2147483647 < (ma.size : Int)) = false := decide_eq_false (by omega)
  have e0_2 : decide (2147483647 < ma.size) = false := decide_eq_false h0
  by_cases h1 : 2147483647 < me.size
  · have e1 : decide (2147483647 < (me.size : Int)) = true := decide_eq_true (by omega)
    have e2 : decide (2147483647 < me.size) = true := decide_eq_true h1
    clear h0 h1 hE
    go_enter Tryz.func6, Tryz.ntmps6
    go_wp2
    go_ret
    exact ⟨rfl, HB.out⟩
  have e1_1 : decide (2147483647 < (me.size : Int)) = false := decide_eq_false (by omega)
  have e1_2 : decide (2147483647 < me.size) = false := decide_eq_false h1
  clear h0 h1
  have HSH : Hid (∀ W, W = w.alloc (.cells #[.string ma, .string me] 9) → Calls Tryz.prog 7 #[.slice (some ⟨w.heap.size, 0, none⟩) 2 2] W fun e w' => e = .returned (.bool (shortT [ma, me])) ∧ Below w.heap.size w w') := Lib.hid (fun W hW => by
    have hb : W.heap[w.heap.size]? = some (.cells #[.string ma, .string me] 9 (0, 0)) := by rw [hW]; exact blk_new _ _
    have hB : Below w.heap.size w W := by rw [hW]; exact below_alloc (Below.refl _ _) _
    refine (short_any [ma, me] (some ⟨w.heap.size, 0, none⟩) 2 W (strs_block hb rfl (by simp)) (Nat.le_refl _) (by simp)).mono ?_
    rintro e w' ⟨he, hb'⟩
    exact ⟨he, hB.trans (hb'.mono hB.size)⟩)
  obtain ⟨sh, hsh⟩ : ∃ b, b = shortT [ma, me] := ⟨_, rfl⟩
  rw [← hsh] at HSH
  by_cases hs0 : sh = false
  · subst hs0
    clear hsh hE hid
    go_enter Tryz.func6, Tryz.ntmps6
    go_wp2_with (first
        | (go_at_call 7
           refine (HSH.out _ rfl).mono ?_
           rintro e W1 ⟨rfl, hB1⟩
           have HB1 := Lib.hid hB1
           clear hB1)
        | (go_at_call 8
           refine (works_any _).mono ?_
           rintro e W9 ⟨rfl, hB9⟩))
    go_ret
    exact ⟨rfl, HB1.out.trans (hB9.mono HB1.out.size)⟩
  obtain rfl : sh = true := by simpa using hs0
  have hsz : ma.size ≤ 200 ∧ me.size ≤ 200 := by
    have := hsh.symm
    simp only [shortT, List.all_cons, List.all_nil, Bool.and_true, Bool.and_eq_true, decide_eq_true_eq] at this
    exact ⟨this.1.1, this.1.2⟩
  have HSZ := Lib.hid hsz
  clear hs0 hsh hsz
  by_cases hc0 : code < 0
  · have t0_0 : decide (code < 0) = true := decide_eq_true (by omega)
    clear hE hid hc0
    go_enter Tryz.func6, Tryz.ntmps6
    go_wp2_with (first
        | (go_at_call 7
           refine (HSH.out _ rfl).mono ?_
           rintro e W1 ⟨rfl, hB1⟩
           have HB1 := Lib.hid hB1
           clear hB1)
        | (go_at_call 8
           refine (works_any _).mono ?_
           rintro e W9 ⟨rfl, hB9⟩))
    go_ret
    exact ⟨rfl, HB1.out.trans (hB9.mono HB1.out.size)⟩
  have f0_0 : decide (code < 0) = false := decide_eq_false (by omega)
  have HC0 := Lib.hid hc0
  clear hc0
  by_cases hc1 : 100 < code
  · have t1_0 : decide (code > 100) = true := decide_eq_true (by omega)
    have t1_1 : decide (100 < code) = true := decide_eq_true (by omega)
    clear hE hid hc1
    go_enter Tryz.func6, Tryz.ntmps6
    go_wp2_with (first
        | (go_at_call 7
           refine (HSH.out _ rfl).mono ?_
           rintro e W1 ⟨rfl, hB1⟩
           have HB1 := Lib.hid hB1
           clear hB1)
        | (go_at_call 8
           refine (works_any _).mono ?_
           rintro e W9 ⟨rfl, hB9⟩))
    go_ret
    exact ⟨rfl, HB1.out.trans (hB9.mono HB1.out.size)⟩
  have f1_0 : decide (code > 100) = false := decide_eq_false (by omega)
  have f1_1 : decide (100 < code) = false := decide_eq_false (by omega)
  have HC1 := Lib.hid hc1
  clear hc1
  by_cases hc2 : id < 0
  · have t2_0 : decide (id < 0) = true := decide_eq_true (by omega)
    clear hE hid hc2
    go_enter Tryz.func6, Tryz.ntmps6
    go_wp2_with (first
        | (go_at_call 7
           refine (HSH.out _ rfl).mono ?_
           rintro e W1 ⟨rfl, hB1⟩
           have HB1 := Lib.hid hB1
           clear hB1)
        | (go_at_call 8
           refine (works_any _).mono ?_
           rintro e W9 ⟨rfl, hB9⟩))
    go_ret
    exact ⟨rfl, HB1.out.trans (hB9.mono HB1.out.size)⟩
  have f2_0 : decide (id < 0) = false := decide_eq_false (by omega)
  have HC2 := Lib.hid hc2
  clear hc2
  by_cases hc3 : 2147483648 ≤ id
  · have t3_0 : decide (id ≥ 2147483648) = true := decide_eq_true (by omega)
    have t3_1 : decide (2147483648 ≤ id) = true := decide_eq_true (by omega)
    clear hE hid hc3
    go_enter Tryz.func6, Tryz.ntmps6
    go_wp2_with (first
        | (go_at_call 7
           refine (HSH.out _ rfl).mono ?_
           rintro e W1 ⟨rfl, hB1⟩
           have HB1 := Lib.hid hB1
           clear hB1)
        | (go_at_call 8
           refine (works_any _).mono ?_
           rintro e W9 ⟨rfl, hB9⟩))
    go_ret
    exact ⟨rfl, HB1.out.trans (hB9.mono HB1.out.size)⟩
  have f3_0 : decide (id ≥ 2147483648) = false := decide_eq_false (by omega)
  have f3_1 : decide (2147483648 ≤ id) = false := decide_eq_false (by omega)
  have HC3 := Lib.hid hc3
  clear hc3
  obtain ⟨rb, hrb, hrt⟩ := resp_ex tag
  have HRS := Lib.hid (resp_any tag rb hrb)
  by_cases hr0 : rb = false
  · subst hr0
    clear hrb hrt hE hid
    go_enter Tryz.func6, Tryz.ntmps6
    go_wp2_with (first
        | (go_at_call 7
           refine (HSH.out _ rfl).mono ?_
           rintro e W1 ⟨rfl, hB1⟩
           have HB1 := Lib.hid hB1
           clear hB1)
        | (go_at_call 8
           refine (works_any _).mono ?_
           rintro e W9 ⟨rfl, hB9⟩)
        | (go_at_call 23
           refine (HRS.out _).mono ?_
           rintro e W2 ⟨rfl, hB2⟩
           have HB2 := Lib.hid (HB1.out.trans (hB2.mono HB1.out.size))
           clear hB2))
    go_ret
    exact ⟨rfl, HB2.out.trans (hB9.mono HB2.out.size)⟩
  obtain rfl : rb = true := by simpa using hr0
  have HTG := Lib.hid (hrt rfl)
  clear hrb hrt hr0
  by_cases hc4 : code = 14
  · have t4_0 : (code == 14) = true := beq_iff_eq.mpr hc4
    clear hE hid hc4
    go_enter Tryz.func6, Tryz.ntmps6
    go_wp2_with (first
        | (go_at_call 7
           refine (HSH.out _ rfl).mono ?_
           rintro e W1 ⟨rfl, hB1⟩
           have HB1 := Lib.hid hB1
           clear hB1)
        | (go_at_call 8
           refine (works_any _).mono ?_
           rintro e W9 ⟨rfl, hB9⟩)
        | (go_at_call 23
           refine (HRS.out _).mono ?_
           rintro e W2 ⟨rfl, hB2⟩
           have HB2 := Lib.hid (HB1.out.trans (hB2.mono HB1.out.size))
           clear hB2))
    go_ret
    exact ⟨rfl, HB2.out.trans (hB9.mono HB2.out.size)⟩
  have f4_0 : (code == 14) = false := beq_eq_false_iff_ne.mpr hc4
  have HC4 := Lib.hid hc4
  clear hc4
  by_cases hc5 : code = 10
  · have t5_0 : (code == 10) = true := beq_iff_eq.mpr hc5
    clear hE hid hc5
    go_enter Tryz.func6, Tryz.ntmps6
    go_wp2_with (first
        | (go_at_call 7
           refine (HSH.out _ rfl).mono ?_
           rintro e W1 ⟨rfl, hB1⟩
           have HB1 := Lib.hid hB1
           clear hB1)
        | (go_at_call 8
           refine (works_any _).mono ?_
           rintro e W9 ⟨rfl, hB9⟩)
        | (go_at_call 23
           refine (HRS.out _).mono ?_
           rintro e W2 ⟨rfl, hB2⟩
           have HB2 := Lib.hid (HB1.out.trans (hB2.mono HB1.out.size))
           clear hB2))
    go_ret
    exact ⟨rfl, HB2.out.trans (hB9.mono HB2.out.size)⟩
  have f5_0 : (code == 10) = false := beq_eq_false_iff_ne.mpr hc5
  have HC5 := Lib.hid hc5
  clear hc5
  by_cases hc6 : code = 5
  · have t6_0 : (code == 5) = true := beq_iff_eq.mpr hc6
    clear hE hid hc6
    go_enter Tryz.func6, Tryz.ntmps6
    go_wp2_with (first
        | (go_at_call 7
           refine (HSH.out _ rfl).mono ?_
           rintro e W1 ⟨rfl, hB1⟩
           have HB1 := Lib.hid hB1
           clear hB1)
        | (go_at_call 8
           refine (works_any _).mono ?_
           rintro e W9 ⟨rfl, hB9⟩)
        | (go_at_call 23
           refine (HRS.out _).mono ?_
           rintro e W2 ⟨rfl, hB2⟩
           have HB2 := Lib.hid (HB1.out.trans (hB2.mono HB1.out.size))
           clear hB2))
    go_ret
    exact ⟨rfl, HB2.out.trans (hB9.mono HB2.out.size)⟩
  have f6_0 : (code == 5) = false := beq_eq_false_iff_ne.mpr hc6
  have HC6 := Lib.hid hc6
  clear hc6
  by_cases hc7 : code = 6
  · have t7_0 : (code == 6) = true := beq_iff_eq.mpr hc7
    clear hE hid hc7
    go_enter Tryz.func6, Tryz.ntmps6
    go_wp2_with (first
        | (go_at_call 7
           refine (HSH.out _ rfl).mono ?_
           rintro e W1 ⟨rfl, hB1⟩
           have HB1 := Lib.hid hB1
           clear hB1)
        | (go_at_call 8
           refine (works_any _).mono ?_
           rintro e W9 ⟨rfl, hB9⟩)
        | (go_at_call 23
           refine (HRS.out _).mono ?_
           rintro e W2 ⟨rfl, hB2⟩
           have HB2 := Lib.hid (HB1.out.trans (hB2.mono HB1.out.size))
           clear hB2))
    go_ret
    exact ⟨rfl, HB2.out.trans (hB9.mono HB2.out.size)⟩
  have f7_0 : (code == 6) = false := beq_eq_false_iff_ne.mpr hc7
  have HC7 := Lib.hid hc7
  clear hc7
  have hcode : 0 ≤ code ∧ code ≤ 100 := by
    have h1 := HC0.out
    have h2 := HC1.out
    omega
  have HFI := Lib.hid (resT_fine id tag code ma me hid HTG.out (by omega) (by have := HSZ.out; omega) (by have := HSZ.out; omega))
  have HIS := Lib.hid (resT_is id tag code ma me (by omega))
  have HSR : Hid (∀ W, Calls Tryz.prog 24 #[.int .i64 tag, .int .i64 code, .string ma, .string me] W (Nw W.heap.size W (tOp tag [tC code, tO ma, tO me]))) := Lib.hid (fun W => sResult_nw tag code ma me W (by omega) (by have := HSZ.out; omega) (by have := HSZ.out; omega))
  obtain ⟨xr, hxr⟩ : ∃ x, x = tOp tag [tC code, tO ma, tO me] := ⟨_, rfl⟩
  have HME : Hid (∀ (A3 : Option Addr) (c3 : Nat) (A4 : Option Addr) (c4 : Nat) (W : World), (∃ b, Lies b W xr A3 c3 A4 c4) → Calls Tryz.prog 11 #[.int .i64 id, .agg #[.int .i64 xr.f0, .int .i64 xr.f1, .bool xr.f2, .slice A3 xr.f3.length c3, .slice A4 xr.f4.length c4], .slice none 0 0] W (Got W (resT id tag code ma me))) := Lib.hid (fun A3 c3 A4 c4 W h => by
    obtain ⟨b, hl⟩ := h
    have := sMsg_any id hid xr A3 c3 A4 c4 [] none 0 W hl.1 (Kd.F_now hl.2.1) hl.2.2.1 (Kd.F_now hl.2.2.2) (Nat.le_refl _) (Kd.C_nil _ _)
    rw [hxr] at this ⊢
    exact this)
  rw [← hxr] at HSR
  obtain ⟨x, hx⟩ : ∃ x, x = resT id tag code ma me := ⟨_, rfl⟩
  rw [← hx] at HME HFI HIS
  have HPL : Hid (∀ (A3 : Option Addr) (c3 : Nat) (A4 : Option Addr) (c4 : Nat) (W : World), (Kd.int .u8).C W A3 x.f3.length x.f3 → x.f3.length ≤ c3 → k34.C W A4 x.f4.length x.f4 → x.f4.length ≤ c4 → Calls Tryz.prog 10 #[.agg #[.int .i64 x.f0, .int .i64 x.f1, .bool x.f2, .slice A3 x.f3.length c3, .slice A4 x.f4.length c4]] W (Pln W W x A3 c3)) := Lib.hid (fun A3 c3 A4 c4 W h3 l3 h4 l4 => plain_any W (dpx x) x (Nat.le_refl _) (Nat.le_trans HFI.out.t (by decide)) A3 c3 A4 c4 W h3 l3 h4 l4 (Below.refl _ _))
  have HRE : Hid (∀ (A3 : Option Addr) (c3 : Nat) (A4 : Option Addr) (c4 : Nat) (W : World), B8.C W A3 x.f3.length x.f3 → k30.C W A4 (plL x.f4).length (plL x.f4) → Below w.heap.size w W → Calls Tryz.prog 25 #[.agg #[.int .i64 x.f0, .int .i64 x.f1, .bool x.f2, .slice A3 x.f3.length c3, .slice A4 (plL x.f4).length c4]] W fun e w' => e = .returned (.tuple #[.int .i64 code, .string ma, .string me, .bool true]) ∧ Below W.heap.size W w') := Lib.hid (fun A3 c3 A4 c4 W h3 h4 hb => result_x x HFI.out HIS.out.1 HIS.out.2 (by omega) (by omega) W A3 c3 A4 c4 h3 h4 va ua (eof_below hE hb))
  have HWK : Hid (∀ W, Calls Tryz.prog 8 #[] W fun e w' => e = .returned (.bool true) ∧ Below W.heap.size W w') := Lib.hid (fun W => works_any W)
  by_cases hz : code = 0
  · subst hz
    have HFA : Hid (∀ (A3 : Option Addr) (c3 : Nat) (A4 : Option Addr) (c4 : Nat) (W : World), B8.C W A3 x.f3.length x.f3 → k30.C W A4 (plL x.f4).length (plL x.f4) → Below w.heap.size w W → Calls Tryz.prog 26 #[.agg #[.int .i64 x.f0, .int .i64 x.f1, .bool x.f2, .slice A3 x.f3.length c3, .slice A4 (plL x.f4).length c4]] W fun e w' => e = .returned (.tuple #[.int .i64 0, .string ⟨#[]⟩, .bool false]) ∧ Below W.heap.size W w') := Lib.hid (fun A3 c3 A4 c4 W h3 h4 hb => failure_x0 x HFI.out HIS.out.1 W A3 c3 A4 c4 h3 h4 va ua (eof_below hE hb))
    clear hE hid hx hxr hcode
    go_enter Tryz.func6, Tryz.ntmps6
    go_wp2_with (first
      | (go_at_call 7
         refine (HSH.out _ rfl).mono ?_
         rintro e W1 ⟨rfl, hB1⟩
         have HB1 := Lib.hid hB1
         clear hB1)
      | (go_at_call 23
         refine (HRS.out _).mono ?_
         rintro e W2 ⟨rfl, hB2⟩
         have HB2 := Lib.hid (HB1.out.trans (hB2.mono HB1.out.size))
         clear hB2)
      | (go_at_call 24
         with_reducible refine (HSR.out W2).mono ?_
         rintro e W3 h3
         obtain ⟨A3, c3, A4, c4, rfl, hl, hB⟩ := h3.open
         have HL3 := Lib.hid hl
         have HB3 := Lib.hid (HB2.out.trans (hB.mono HB2.out.size))
         clear hl hB)
      | (go_at_call 11
         with_reducible refine (HME.out A3 c3 A4 c4 W3 ⟨_, HL3.out⟩).mono ?_
         rintro e W4 ⟨B3, d3, B4, d4, rfl, l3, g3, l4, g4, hB⟩
         have HP4 := Lib.hid (HPL.out B3 d3 B4 d4 W4 g3 l3 g4 l4)
         have HG4 := Lib.hid g3
         have HB4 := Lib.hid (HB3.out.trans (hB.mono HB3.out.size))
         clear l3 g3 l4 g4 hB)
      | (go_at_call 10
         with_reducible refine HP4.out.mono ?_
         rintro e W5 ⟨E4, q4, rfl, l4, g4, hB⟩
         have HG5 := Lib.hid (Kd.C_below HG4.out hB)
         have HK5 := Lib.hid (Kd.F_now g4)
         have HB5 := Lib.hid (HB4.out.trans (hB.mono HB4.out.size))
         clear l4 g4 hB)
      | (go_at_call 25
         obtain ⟨V, hV⟩ : ∃ V, V = W5.alloc (.cells #[.int .i64 x.f0, .int .i64 x.f1, .bool x.f2, .slice B3 x.f3.length d3, .slice E4 (plL x.f4).length q4] 30) := ⟨_, rfl⟩
         rw [← hV]
         have hbV : Below W5.heap.size W5 V := by rw [hV]; exact below_alloc (Below.refl _ _) _
         have hxV : V.heap[W5.heap.size]? = some (.cells #[.int .i64 x.f0, .int .i64 x.f1, .bool x.f2, .slice B3 x.f3.length d3, .slice E4 (plL x.f4).length q4] 30 (0, 0)) := by rw [hV]; exact blk_new _ _
         have hb := HB5.out.trans (hbV.mono HB5.out.size)
         have g3 := Kd.C_below HG5.out hbV
         have g4 := Kd.C_below HK5.out hbV
         with_reducible refine (HRE.out B3 d3 E4 q4 V g3 g4 hb).mono ?_
         rintro e W6 ⟨rfl, hB6⟩
         have HF6 := Lib.hid (HFA.out B3 d3 E4 q4 W6 (Kd.C_below g3 hB6) (Kd.C_below g4 hB6) (hb.trans (hB6.mono hb.size)))
         have HB6 := Lib.hid (hb.trans (hB6.mono hb.size))
         have hx6 := blk_below hxV hB6
         have a0 : W6.cell? ⟨W5.heap.size, 0, none⟩ = some (.int .i64 x.f0) := blk_cell hx6 0
         have a1 : W6.cell? ⟨W5.heap.size, 1, none⟩ = some (.int .i64 x.f1) := blk_cell hx6 1
         have a2 : W6.cell? ⟨W5.heap.size, 2, none⟩ = some (.bool x.f2) := blk_cell hx6 2
         have a3 : W6.cell? ⟨W5.heap.size, 3, none⟩ = some (.slice B3 x.f3.length d3) := blk_cell hx6 3
         have a4 : W6.cell? ⟨W5.heap.size, 4, none⟩ = some (.slice E4 (plL x.f4).length q4) := blk_cell hx6 4
         clear hV hbV hxV hb g3 g4 hB6 hx6)
      | (go_at_call 26
         with_reducible refine HF6.out.mono ?_
         rintro e W7 ⟨rfl, hB7⟩
         have HB7 := Lib.hid (HB6.out.trans (hB7.mono HB6.out.size))
         clear hB7)
      | (go_at_call 8
         with_reducible refine (HWK.out W7).mono ?_
         rintro e W9 ⟨rfl, hB9⟩))
    go_ret
    exact ⟨rfl, HB7.out.trans (hB9.mono HB7.out.size)⟩
  · have hne : (code != 0) = true := by simpa using hz
    have hne2 : (code == 0) = false := by simpa using hz
    have HFA : Hid (∀ (A3 : Option Addr) (c3 : Nat) (A4 : Option Addr) (c4 : Nat) (W : World), B8.C W A3 x.f3.length x.f3 → k30.C W A4 (plL x.f4).length (plL x.f4) → Below w.heap.size w W → Calls Tryz.prog 26 #[.agg #[.int .i64 x.f0, .int .i64 x.f1, .bool x.f2, .slice A3 x.f3.length c3, .slice A4 (plL x.f4).length c4]] W fun e w' => e = .returned (.tuple #[.int .i64 code, .string ma, .bool true]) ∧ Below W.heap.size W w') := Lib.hid (fun A3 c3 A4 c4 W h3 h4 hb => failure_x1 x HFI.out HIS.out.1 (by omega) (by omega) W A3 c3 A4 c4 h3 h4 va ua (eof_below hE hb))
    clear hE hid hx hxr hcode hz
    go_enter Tryz.func6, Tryz.ntmps6
    go_wp2_with (first
      | (go_at_call 7
         refine (HSH.out _ rfl).mono ?_
         rintro e W1 ⟨rfl, hB1⟩
         have HB1 := Lib.hid hB1
         clear hB1)
      | (go_at_call 23
         refine (HRS.out _).mono ?_
         rintro e W2 ⟨rfl, hB2⟩
         have HB2 := Lib.hid (HB1.out.trans (hB2.mono HB1.out.size))
         clear hB2)
      | (go_at_call 24
         with_reducible refine (HSR.out W2).mono ?_
         rintro e W3 h3
         obtain ⟨A3, c3, A4, c4, rfl, hl, hB⟩ := h3.open
         have HL3 := Lib.hid hl
         have HB3 := Lib.hid (HB2.out.trans (hB.mono HB2.out.size))
         clear hl hB)
      | (go_at_call 11
         with_reducible refine (HME.out A3 c3 A4 c4 W3 ⟨_, HL3.out⟩).mono ?_
         rintro e W4 ⟨B3, d3, B4, d4, rfl, l3, g3, l4, g4, hB⟩
         have HP4 := Lib.hid (HPL.out B3 d3 B4 d4 W4 g3 l3 g4 l4)
         have HG4 := Lib.hid g3
         have HB4 := Lib.hid (HB3.out.trans (hB.mono HB3.out.size))
         clear l3 g3 l4 g4 hB)
      | (go_at_call 10
         with_reducible refine HP4.out.mono ?_
         rintro e W5 ⟨E4, q4, rfl, l4, g4, hB⟩
         have HG5 := Lib.hid (Kd.C_below HG4.out hB)
         have HK5 := Lib.hid (Kd.F_now g4)
         have HB5 := Lib.hid (HB4.out.trans (hB.mono HB4.out.size))
         clear l4 g4 hB)
      | (go_at_call 25
         obtain ⟨V, hV⟩ : ∃ V, V = W5.alloc (.cells #[.int .i64 x.f0, .int .i64 x.f1, .bool x.f2, .slice B3 x.f3.length d3, .slice E4 (plL x.f4).length q4] 30) := ⟨_, rfl⟩
         rw [← hV]
         have hbV : Below W5.heap.size W5 V := by rw [hV]; exact below_alloc (Below.refl _ _) _
         have hxV : V.heap[W5.heap.size]? = some (.cells #[.int .i64 x.f0, .int .i64 x.f1, .bool x.f2, .slice B3 x.f3.length d3, .slice E4 (plL x.f4).length q4] 30 (0, 0)) := by rw [hV]; exact blk_new _ _
         have hb := HB5.out.trans (hbV.mono HB5.out.size)
         have g3 := Kd.C_below HG5.out hbV
         have g4 := Kd.C_below HK5.out hbV
         with_reducible refine (HRE.out B3 d3 E4 q4 V g3 g4 hb).mono ?_
         rintro e W6 ⟨rfl, hB6⟩
         have HF6 := Lib.hid (HFA.out B3 d3 E4 q4 W6 (Kd.C_below g3 hB6) (Kd.C_below g4 hB6) (hb.trans (hB6.mono hb.size)))
         have HB6 := Lib.hid (hb.trans (hB6.mono hb.size))
         have hx6 := blk_below hxV hB6
         have a0 : W6.cell? ⟨W5.heap.size, 0, none⟩ = some (.int .i64 x.f0) := blk_cell hx6 0
         have a1 : W6.cell? ⟨W5.heap.size, 1, none⟩ = some (.int .i64 x.f1) := blk_cell hx6 1
         have a2 : W6.cell? ⟨W5.heap.size, 2, none⟩ = some (.bool x.f2) := blk_cell hx6 2
         have a3 : W6.cell? ⟨W5.heap.size, 3, none⟩ = some (.slice B3 x.f3.length d3) := blk_cell hx6 3
         have a4 : W6.cell? ⟨W5.heap.size, 4, none⟩ = some (.slice E4 (plL x.f4).length q4) := blk_cell hx6 4
         clear hV hbV hxV hb g3 g4 hB6 hx6)
      | (go_at_call 26
         with_reducible refine HF6.out.mono ?_
         rintro e W7 ⟨rfl, hB7⟩
         have HB7 := Lib.hid (HB6.out.trans (hB7.mono HB6.out.size))
         clear hB7)
      | (go_at_call 8
         with_reducible refine (HWK.out W7).mono ?_
         rintro e W9 ⟨rfl, hB9⟩))
    go_ret
    exact ⟨rfl, HB7.out.trans (hB9.mono HB7.out.size)⟩
end Go.Proofs.YteockihoefbmdaaGreatDoor.Ber
