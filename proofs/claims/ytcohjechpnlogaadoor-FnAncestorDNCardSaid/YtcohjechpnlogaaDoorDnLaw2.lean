/- The laws FnEqualDN and FnAncestorDN walked. No condition. -/
import Derived.Test.YtcohjechpnlogaaDoorDnFits
import Derived.Test.YtcohjechpnlogaaDoorDnImpl
namespace Go.Proofs.YtcohjechpnlogaaDoor.Dn
open Go.RowKit Go.Proofs.YtcohjechpnlogaaDoorW.PrintWords Go.Proofs.YtcohjechpnlogaaDoor.PDN
set_option linter.unusedVariables false
set_option linter.unusedSimpArgs false

set_option maxHeartbeats 1600000 in
set_option maxRecDepth 100000 in
theorem fnAncestorDN_any (a b : List (List S53)) (A B : Option Addr) (c d : Nat) (w : World) (hA : (Kd.slice 53 k53).C w A a.length a) (lA : a.length ≤ c) (hB : (Kd.slice 53 k53).C w B b.length b) (lB : b.length ≤ d) :
    Calls Tryd.prog 5 #[.slice A a.length c, .slice B b.length d] w fun e w' => e = .returned (.bool true) ∧ Below w.heap.size w w' := by
  obtain ⟨k1, z1, e1, h1⟩ := zz5 a
  obtain ⟨k2, z2, e2, h2⟩ := zz5 b
  have HZ1 := Lib.hid (fun W (hW : Below w.heap.size w W) => laws_zzFits5.calls k1 A c a z1 W (Kd.C_below hA hW) lA e1)
  have HZ2 := Lib.hid (fun W (hW : Below w.heap.size w W) => laws_zzFits5.calls k2 B d b z2 W (Kd.C_below hB hW) lB e2)
  have HB := Lib.hid (Below.refl w.heap.size w)
  have HW := Lib.hid (fun W => laws_works.calls 12 true W (by decide +kernel))
  clear e1 e2
  cases z1 with
  | false =>
    clear h1 h2 hA hB
    go_enter Tryd.func5, Tryd.ntmps5
    go_wp2_with (first
        | (go_at_call 12
           with_reducible refine (HZ1.out _ HB.out).mono ?_
           rintro e W ⟨rfl, hb⟩
           replace HB := Lib.hid (HB.out.trans (hb.mono HB.out.size))
           clear hb)
        | (go_at_call 12
           with_reducible refine (HZ2.out _ HB.out).mono ?_
           rintro e W ⟨rfl, hb⟩
           replace HB := Lib.hid (HB.out.trans (hb.mono HB.out.size))
           clear hb))
    go_ret
    exact ⟨rfl, HB.out⟩

  | true =>
  cases z2 with
  | false =>
    clear h1 h2 hA hB
    go_enter Tryd.func5, Tryd.ntmps5
    go_wp2_with (first
        | (go_at_call 12
           with_reducible refine (HZ1.out _ HB.out).mono ?_
           rintro e W ⟨rfl, hb⟩
           replace HB := Lib.hid (HB.out.trans (hb.mono HB.out.size))
           clear hb)
        | (go_at_call 12
           with_reducible refine (HZ2.out _ HB.out).mono ?_
           rintro e W ⟨rfl, hb⟩
           replace HB := Lib.hid (HB.out.trans (hb.mono HB.out.size))
           clear hb))
    go_ret
    exact ⟨rfl, HB.out⟩

  | true =>
  obtain ⟨la, fa⟩ := h1 rfl
  obtain ⟨lb, fb⟩ := h2 rfl
  clear h1 h2
  obtain ⟨k3, e3⟩ := names_ok a (fun r hr => (fa r hr).1) la
  obtain ⟨k4, e4⟩ := names_ok b (fun r hr => (fb r hr).1) lb
  obtain ⟨X, hX⟩ : ∃ X, X = upL a := ⟨_, rfl⟩
  obtain ⟨Y, hY⟩ : ∃ Y, Y = upL b := ⟨_, rfl⟩
  rw [← hX] at e3
  rw [← hY] at e4
  have HN1 := Lib.hid (fun W (hW : Below w.heap.size w W) => laws_names.calls k3 A c a _ W (Kd.C_below hA hW) lA e3)
  have HN2 := Lib.hid (fun W (hW : Below w.heap.size w W) => laws_names.calls k4 B d b _ W (Kd.C_below hB hW) lB e4)
  obtain ⟨k5, p1, e5, h5⟩ := proper_ok a fa la
  obtain ⟨k6, p2, e6, h6⟩ := proper_ok b fb lb
  rw [← hX] at e5
  rw [← hY] at e6
  have HP1 := Lib.hid (fun W AX cx hx (lx : X.length ≤ cx) => spec_ProperName.calls k5 AX cx X p1 W hx lx e5)
  have HP2 := Lib.hid (fun W AX cx hx (lx : Y.length ≤ cx) => spec_ProperName.calls k6 AX cx Y p2 W hx lx e6)
  clear e3 e4 e5 e6
  cases p1 with
  | false =>
    clear h5 h6 fa fb hA hB la lb hX hY
    go_enter Tryd.func5, Tryd.ntmps5
    go_wp2_with (first
        | (go_at_call 12
           with_reducible refine (HZ1.out _ HB.out).mono ?_
           rintro e W ⟨rfl, hb⟩
           replace HB := Lib.hid (HB.out.trans (hb.mono HB.out.size))
           clear hb)
        | (go_at_call 12
           with_reducible refine (HZ2.out _ HB.out).mono ?_
           rintro e W ⟨rfl, hb⟩
           replace HB := Lib.hid (HB.out.trans (hb.mono HB.out.size))
           clear hb)
        | (go_at_call 13
           with_reducible refine (HN1.out _ HB.out).mono ?_
           rintro e W ⟨v, rfl, hv, hb⟩
           obtain ⟨AX, cX, rfl, lX, hX⟩ := Kd.S_reads hv
           have HCX := Lib.hid hX
           replace HB := Lib.hid (HB.out.trans (hb.mono HB.out.size))
           clear hb hv hX HN1)
        | (go_at_call 13
           with_reducible refine (HN2.out _ HB.out).mono ?_
           rintro e W ⟨v, rfl, hv, hb⟩
           obtain ⟨AY, cY, rfl, lY, hY⟩ := Kd.S_reads hv
           have HCY := Lib.hid hY
           replace HCX := Lib.hid (Kd.C_below HCX.out hb)
           replace HB := Lib.hid (HB.out.trans (hb.mono HB.out.size))
           clear hb hv hY HN2)
        | (go_at_call 14
           with_reducible refine (HP1.out _ _ _ HCX.out lX).mono ?_
           rintro e W ⟨rfl, hb⟩
           replace HB := Lib.hid (HB.out.trans (hb.mono HB.out.size))
           replace HCX := Lib.hid (Kd.C_below HCX.out hb)
           replace HCY := Lib.hid (Kd.C_below HCY.out hb)
           clear hb)
        | (go_at_call 14
           with_reducible refine (HP2.out _ _ _ HCY.out lY).mono ?_
           rintro e W ⟨rfl, hb⟩
           replace HB := Lib.hid (HB.out.trans (hb.mono HB.out.size))
           replace HCX := Lib.hid (Kd.C_below HCX.out hb)
           replace HCY := Lib.hid (Kd.C_below HCY.out hb)
           clear hb)
        | (go_at_call 9
           with_reducible refine (HW.out _).mono ?_
           rintro e W ⟨rfl, hb⟩
           replace HB := Lib.hid (HB.out.trans (hb.mono HB.out.size))
           clear hb))
    go_ret
    exact ⟨rfl, HB.out⟩

  | true =>
  cases p2 with
  | false =>
    clear h5 h6 fa fb hA hB la lb hX hY
    go_enter Tryd.func5, Tryd.ntmps5
    go_wp2_with (first
        | (go_at_call 12
           with_reducible refine (HZ1.out _ HB.out).mono ?_
           rintro e W ⟨rfl, hb⟩
           replace HB := Lib.hid (HB.out.trans (hb.mono HB.out.size))
           clear hb)
        | (go_at_call 12
           with_reducible refine (HZ2.out _ HB.out).mono ?_
           rintro e W ⟨rfl, hb⟩
           replace HB := Lib.hid (HB.out.trans (hb.mono HB.out.size))
           clear hb)
        | (go_at_call 13
           with_reducible refine (HN1.out _ HB.out).mono ?_
           rintro e W ⟨v, rfl, hv, hb⟩
           obtain ⟨AX, cX, rfl, lX, hX⟩ := Kd.S_reads hv
           have HCX := Lib.hid hX
           replace HB := Lib.hid (HB.out.trans (hb.mono HB.out.size))
           clear hb hv hX HN1)
        | (go_at_call 13
           with_reducible refine (HN2.out _ HB.out).mono ?_
           rintro e W ⟨v, rfl, hv, hb⟩
           obtain ⟨AY, cY, rfl, lY, hY⟩ := Kd.S_reads hv
           have HCY := Lib.hid hY
           replace HCX := Lib.hid (Kd.C_below HCX.out hb)
           replace HB := Lib.hid (HB.out.trans (hb.mono HB.out.size))
           clear hb hv hY HN2)
        | (go_at_call 14
           with_reducible refine (HP1.out _ _ _ HCX.out lX).mono ?_
           rintro e W ⟨rfl, hb⟩
           replace HB := Lib.hid (HB.out.trans (hb.mono HB.out.size))
           replace HCX := Lib.hid (Kd.C_below HCX.out hb)
           replace HCY := Lib.hid (Kd.C_below HCY.out hb)
           clear hb)
        | (go_at_call 14
           with_reducible refine (HP2.out _ _ _ HCY.out lY).mono ?_
           rintro e W ⟨rfl, hb⟩
           replace HB := Lib.hid (HB.out.trans (hb.mono HB.out.size))
           replace HCX := Lib.hid (Kd.C_below HCX.out hb)
           replace HCY := Lib.hid (Kd.C_below HCY.out hb)
           clear hb)
        | (go_at_call 9
           with_reducible refine (HW.out _).mono ?_
           rintro e W ⟨rfl, hb⟩
           replace HB := Lib.hid (HB.out.trans (hb.mono HB.out.size))
           clear hb))
    go_ret
    exact ⟨rfl, HB.out⟩

  | true =>
  obtain ⟨g1, m1⟩ := h5 rfl
  obtain ⟨g2, m2⟩ := h6 rfl
  have sa : ∀ r ∈ a, r.length < 1000 ∧ ∀ x ∈ r, Small x := fun r hr => ⟨by have := (g1 r hr).1; omega, fun x hx => ⟨by have := ((fa r hr).2 x hx).ty; omega, by have := ((fa r hr).2 x hx).val; omega⟩⟩
  have sb : ∀ r ∈ b, r.length < 1000 ∧ ∀ x ∈ r, Small x := fun r hr => ⟨by have := (g2 r hr).1; omega, fun x hx => ⟨by have := ((fb r hr).2 x hx).ty; omega, by have := ((fb r hr).2 x hx).val; omega⟩⟩
  obtain ⟨k7, a1, e7, h7⟩ := apart_ok a sa (by omega)
  obtain ⟨k8, a2, e8, h8⟩ := apart_ok b sb (by omega)
  rw [← hX] at e7
  rw [← hY] at e8
  have HA1 := Lib.hid (fun W AX cx hx (lx : X.length ≤ cx) => spec_Apart.calls k7 AX cx X a1 W hx lx e7)
  have HA2 := Lib.hid (fun W AX cx hx (lx : Y.length ≤ cx) => spec_Apart.calls k8 AX cx Y a2 W hx lx e8)
  clear e7 e8
  cases a1 with
  | false =>
    clear h5 h6 h7 h8 fa fb hA hB la lb g1 g2 m1 m2 sa sb hX hY
    go_enter Tryd.func5, Tryd.ntmps5
    go_wp2_with (first
        | (go_at_call 12
           with_reducible refine (HZ1.out _ HB.out).mono ?_
           rintro e W ⟨rfl, hb⟩
           replace HB := Lib.hid (HB.out.trans (hb.mono HB.out.size))
           clear hb)
        | (go_at_call 12
           with_reducible refine (HZ2.out _ HB.out).mono ?_
           rintro e W ⟨rfl, hb⟩
           replace HB := Lib.hid (HB.out.trans (hb.mono HB.out.size))
           clear hb)
        | (go_at_call 13
           with_reducible refine (HN1.out _ HB.out).mono ?_
           rintro e W ⟨v, rfl, hv, hb⟩
           obtain ⟨AX, cX, rfl, lX, hX⟩ := Kd.S_reads hv
           have HCX := Lib.hid hX
           replace HB := Lib.hid (HB.out.trans (hb.mono HB.out.size))
           clear hb hv hX HN1)
        | (go_at_call 13
           with_reducible refine (HN2.out _ HB.out).mono ?_
           rintro e W ⟨v, rfl, hv, hb⟩
           obtain ⟨AY, cY, rfl, lY, hY⟩ := Kd.S_reads hv
           have HCY := Lib.hid hY
           replace HCX := Lib.hid (Kd.C_below HCX.out hb)
           replace HB := Lib.hid (HB.out.trans (hb.mono HB.out.size))
           clear hb hv hY HN2)
        | (go_at_call 14
           with_reducible refine (HP1.out _ _ _ HCX.out lX).mono ?_
           rintro e W ⟨rfl, hb⟩
           replace HB := Lib.hid (HB.out.trans (hb.mono HB.out.size))
           replace HCX := Lib.hid (Kd.C_below HCX.out hb)
           replace HCY := Lib.hid (Kd.C_below HCY.out hb)
           clear hb)
        | (go_at_call 14
           with_reducible refine (HP2.out _ _ _ HCY.out lY).mono ?_
           rintro e W ⟨rfl, hb⟩
           replace HB := Lib.hid (HB.out.trans (hb.mono HB.out.size))
           replace HCX := Lib.hid (Kd.C_below HCX.out hb)
           replace HCY := Lib.hid (Kd.C_below HCY.out hb)
           clear hb)
        | (go_at_call 15
           with_reducible refine (HA1.out _ _ _ HCX.out lX).mono ?_
           rintro e W ⟨rfl, hb⟩
           replace HB := Lib.hid (HB.out.trans (hb.mono HB.out.size))
           replace HCX := Lib.hid (Kd.C_below HCX.out hb)
           replace HCY := Lib.hid (Kd.C_below HCY.out hb)
           clear hb)
        | (go_at_call 15
           with_reducible refine (HA2.out _ _ _ HCY.out lY).mono ?_
           rintro e W ⟨rfl, hb⟩
           replace HB := Lib.hid (HB.out.trans (hb.mono HB.out.size))
           replace HCX := Lib.hid (Kd.C_below HCX.out hb)
           replace HCY := Lib.hid (Kd.C_below HCY.out hb)
           clear hb)
        | (go_at_call 9
           with_reducible refine (HW.out _).mono ?_
           rintro e W ⟨rfl, hb⟩
           replace HB := Lib.hid (HB.out.trans (hb.mono HB.out.size))
           clear hb))
    go_ret
    exact ⟨rfl, HB.out⟩

  | true =>
  cases a2 with
  | false =>
    clear h5 h6 h7 h8 fa fb hA hB la lb g1 g2 m1 m2 sa sb hX hY
    go_enter Tryd.func5, Tryd.ntmps5
    go_wp2_with (first
        | (go_at_call 12
           with_reducible refine (HZ1.out _ HB.out).mono ?_
           rintro e W ⟨rfl, hb⟩
           replace HB := Lib.hid (HB.out.trans (hb.mono HB.out.size))
           clear hb)
        | (go_at_call 12
           with_reducible refine (HZ2.out _ HB.out).mono ?_
           rintro e W ⟨rfl, hb⟩
           replace HB := Lib.hid (HB.out.trans (hb.mono HB.out.size))
           clear hb)
        | (go_at_call 13
           with_reducible refine (HN1.out _ HB.out).mono ?_
           rintro e W ⟨v, rfl, hv, hb⟩
           obtain ⟨AX, cX, rfl, lX, hX⟩ := Kd.S_reads hv
           have HCX := Lib.hid hX
           replace HB := Lib.hid (HB.out.trans (hb.mono HB.out.size))
           clear hb hv hX HN1)
        | (go_at_call 13
           with_reducible refine (HN2.out _ HB.out).mono ?_
           rintro e W ⟨v, rfl, hv, hb⟩
           obtain ⟨AY, cY, rfl, lY, hY⟩ := Kd.S_reads hv
           have HCY := Lib.hid hY
           replace HCX := Lib.hid (Kd.C_below HCX.out hb)
           replace HB := Lib.hid (HB.out.trans (hb.mono HB.out.size))
           clear hb hv hY HN2)
        | (go_at_call 14
           with_reducible refine (HP1.out _ _ _ HCX.out lX).mono ?_
           rintro e W ⟨rfl, hb⟩
           replace HB := Lib.hid (HB.out.trans (hb.mono HB.out.size))
           replace HCX := Lib.hid (Kd.C_below HCX.out hb)
           replace HCY := Lib.hid (Kd.C_below HCY.out hb)
           clear hb)
        | (go_at_call 14
           with_reducible refine (HP2.out _ _ _ HCY.out lY).mono ?_
           rintro e W ⟨rfl, hb⟩
           replace HB := Lib.hid (HB.out.trans (hb.mono HB.out.size))
           replace HCX := Lib.hid (Kd.C_below HCX.out hb)
           replace HCY := Lib.hid (Kd.C_below HCY.out hb)
           clear hb)
        | (go_at_call 15
           with_reducible refine (HA1.out _ _ _ HCX.out lX).mono ?_
           rintro e W ⟨rfl, hb⟩
           replace HB := Lib.hid (HB.out.trans (hb.mono HB.out.size))
           replace HCX := Lib.hid (Kd.C_below HCX.out hb)
           replace HCY := Lib.hid (Kd.C_below HCY.out hb)
           clear hb)
        | (go_at_call 15
           with_reducible refine (HA2.out _ _ _ HCY.out lY).mono ?_
           rintro e W ⟨rfl, hb⟩
           replace HB := Lib.hid (HB.out.trans (hb.mono HB.out.size))
           replace HCX := Lib.hid (Kd.C_below HCX.out hb)
           replace HCY := Lib.hid (Kd.C_below HCY.out hb)
           clear hb)
        | (go_at_call 9
           with_reducible refine (HW.out _).mono ?_
           rintro e W ⟨rfl, hb⟩
           replace HB := Lib.hid (HB.out.trans (hb.mono HB.out.size))
           clear hb))
    go_ret
    exact ⟨rfl, HB.out⟩

  | true =>
  have pa : ∀ r ∈ a, GoodP r := fun r hr => ⟨(sa r hr).1, (sa r hr).2, h7 rfl r hr⟩
  have pb : ∀ r ∈ b, GoodP r := fun r hr => ⟨(sb r hr).1, (sb r hr).2, h8 rfl r hr⟩
  have da : GoodD a := ⟨by omega, fun r hr => ⟨(sa r hr).1, (g1 r hr).2⟩⟩
  have db : GoodD b := ⟨by omega, fun r hr => ⟨(sb r hr).1, (g2 r hr).2⟩⟩
  obtain ⟨q1, hq1⟩ : ∃ q, q = ancEq false a b := ⟨_, rfl⟩
  obtain ⟨q2, hq2⟩ : ∃ q, q = ancEq true a b := ⟨_, rfl⟩
  obtain ⟨k9, e9⟩ := above_ok false a b pa pb (by omega) (by omega)
  obtain ⟨k10, e10⟩ := above_ok true a b pa pb (by omega) (by omega)
  rw [← hq1, ← hX, ← hY] at e9
  rw [← hq2, ← hX, ← hY] at e10
  have HE1 := Lib.hid (fun W (hW : Below w.heap.size w W) => hq1 ▸ ancestorDN_any a b A B c d W (Kd.C_below hA hW) (Kd.C_below hB hW) da db)
  have HE2 := Lib.hid (fun W (hW : Below w.heap.size w W) => hq2 ▸ ancestorFoldDN_any a b A B c d W (Kd.C_below hA hW) (Kd.C_below hB hW) da db)
  have HS1 := Lib.hid (fun W AX cx AY cy hx (lx : X.length ≤ cx) hy (ly : Y.length ≤ cy) => spec_Above.calls k9 AX cx X AY cy Y false q1 W hx lx hy ly e9)
  have HS2 := Lib.hid (fun W AX cx AY cy hx (lx : X.length ≤ cx) hy (ly : Y.length ≤ cy) => spec_Above.calls k10 AX cx X AY cy Y true q2 W hx lx hy ly e10)
  clear h5 h6 h7 h8 fa fb hA hB la lb g1 g2 m1 m2 sa sb pa pb da db e9 e10 hq1 hq2 hX hY
  cases q1 <;> cases q2
  all_goals (
    go_enter Tryd.func5, Tryd.ntmps5
    go_wp2_with (first
        | (go_at_call 12
           with_reducible refine (HZ1.out _ HB.out).mono ?_
           rintro e W ⟨rfl, hb⟩
           replace HB := Lib.hid (HB.out.trans (hb.mono HB.out.size))
           clear hb)
        | (go_at_call 12
           with_reducible refine (HZ2.out _ HB.out).mono ?_
           rintro e W ⟨rfl, hb⟩
           replace HB := Lib.hid (HB.out.trans (hb.mono HB.out.size))
           clear hb)
        | (go_at_call 13
           with_reducible refine (HN1.out _ HB.out).mono ?_
           rintro e W ⟨v, rfl, hv, hb⟩
           obtain ⟨AX, cX, rfl, lX, hX⟩ := Kd.S_reads hv
           have HCX := Lib.hid hX
           replace HB := Lib.hid (HB.out.trans (hb.mono HB.out.size))
           clear hb hv hX HN1)
        | (go_at_call 13
           with_reducible refine (HN2.out _ HB.out).mono ?_
           rintro e W ⟨v, rfl, hv, hb⟩
           obtain ⟨AY, cY, rfl, lY, hY⟩ := Kd.S_reads hv
           have HCY := Lib.hid hY
           replace HCX := Lib.hid (Kd.C_below HCX.out hb)
           replace HB := Lib.hid (HB.out.trans (hb.mono HB.out.size))
           clear hb hv hY HN2)
        | (go_at_call 14
           with_reducible refine (HP1.out _ _ _ HCX.out lX).mono ?_
           rintro e W ⟨rfl, hb⟩
           replace HB := Lib.hid (HB.out.trans (hb.mono HB.out.size))
           replace HCX := Lib.hid (Kd.C_below HCX.out hb)
           replace HCY := Lib.hid (Kd.C_below HCY.out hb)
           clear hb)
        | (go_at_call 14
           with_reducible refine (HP2.out _ _ _ HCY.out lY).mono ?_
           rintro e W ⟨rfl, hb⟩
           replace HB := Lib.hid (HB.out.trans (hb.mono HB.out.size))
           replace HCX := Lib.hid (Kd.C_below HCX.out hb)
           replace HCY := Lib.hid (Kd.C_below HCY.out hb)
           clear hb)
        | (go_at_call 15
           with_reducible refine (HA1.out _ _ _ HCX.out lX).mono ?_
           rintro e W ⟨rfl, hb⟩
           replace HB := Lib.hid (HB.out.trans (hb.mono HB.out.size))
           replace HCX := Lib.hid (Kd.C_below HCX.out hb)
           replace HCY := Lib.hid (Kd.C_below HCY.out hb)
           clear hb)
        | (go_at_call 15
           with_reducible refine (HA2.out _ _ _ HCY.out lY).mono ?_
           rintro e W ⟨rfl, hb⟩
           replace HB := Lib.hid (HB.out.trans (hb.mono HB.out.size))
           replace HCX := Lib.hid (Kd.C_below HCX.out hb)
           replace HCY := Lib.hid (Kd.C_below HCY.out hb)
           clear hb)
        | (go_at_call 19
           with_reducible refine (HE1.out _ HB.out).mono ?_
           rintro e W ⟨rfl, hb⟩
           replace HB := Lib.hid (HB.out.trans (hb.mono HB.out.size))
           replace HCX := Lib.hid (Kd.C_below HCX.out hb)
           replace HCY := Lib.hid (Kd.C_below HCY.out hb)
           clear hb)
        | (go_at_call 20
           with_reducible refine (HS1.out _ _ _ _ _ HCX.out lX HCY.out lY).mono ?_
           rintro e W ⟨rfl, hb⟩
           replace HB := Lib.hid (HB.out.trans (hb.mono HB.out.size))
           replace HCX := Lib.hid (Kd.C_below HCX.out hb)
           replace HCY := Lib.hid (Kd.C_below HCY.out hb)
           clear hb)
        | (go_at_call 21
           with_reducible refine (HE2.out _ HB.out).mono ?_
           rintro e W ⟨rfl, hb⟩
           replace HB := Lib.hid (HB.out.trans (hb.mono HB.out.size))
           replace HCX := Lib.hid (Kd.C_below HCX.out hb)
           replace HCY := Lib.hid (Kd.C_below HCY.out hb)
           clear hb)
        | (go_at_call 20
           with_reducible refine (HS2.out _ _ _ _ _ HCX.out lX HCY.out lY).mono ?_
           rintro e W ⟨rfl, hb⟩
           replace HB := Lib.hid (HB.out.trans (hb.mono HB.out.size))
           replace HCX := Lib.hid (Kd.C_below HCX.out hb)
           replace HCY := Lib.hid (Kd.C_below HCY.out hb)
           clear hb)
        | (go_at_call 9
           with_reducible refine (HW.out _).mono ?_
           rintro e W ⟨rfl, hb⟩
           replace HB := Lib.hid (HB.out.trans (hb.mono HB.out.size))
           clear hb))
    go_ret
    exact ⟨rfl, HB.out⟩)
end Go.Proofs.YtcohjechpnlogaaDoor.Dn
