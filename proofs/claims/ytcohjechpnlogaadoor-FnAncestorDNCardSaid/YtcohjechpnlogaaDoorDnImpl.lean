/- impl.EqualDN, EqualFoldDN, AncestorDN and AncestorFoldDN. -/
import Derived.Test.YtcohjechpnlogaaDoorDnMake
import Derived.Test.YtcohjechpnlogaaDoorDnAnc
namespace Go.Proofs.YtcohjechpnlogaaDoor.Dn
open Go.RowKit Go.Proofs.YtcohjechpnlogaaDoorW.PrintWords Go.Proofs.YtcohjechpnlogaaDoor.PDN
set_option linter.unusedVariables false
set_option linter.unusedSimpArgs false

set_option maxHeartbeats 800000 in
set_option maxRecDepth 100000 in
theorem equalDN_any (a b : List (List S53)) (A B : Option Addr) (c d : Nat) (w : World) (hA : (Kd.slice 53 k53).C w A a.length a) (hB : (Kd.slice 53 k53).C w B b.length b) (gA : GoodD a) (gB : GoodD b) :
    Calls Tryd.prog 16 #[.slice A a.length c, .slice B b.length d] w fun e w' => e = .returned (.bool (dnEq false a b)) ∧ Below w.heap.size w w' := by
  have HD1 := Lib.hid (dn_any a A c w hA gA.len (fun r hr => (gA.part r hr).1))
  have HD2 := Lib.hid (fun W (hb : Below w.heap.size w W) => dn_any b B d W (Kd.C_below hB hb) gB.len (fun r hr => (gB.part r hr).1))
  have HGA := Lib.hid gA
  have HGB := Lib.hid gB
  clear hA hB gA gB
  go_enter Tryd.func16, Tryd.ntmps16
  go_wp2_with (first
    | (go_at_call 34
       with_reducible refine HD1.out.mono ?_
       rintro e W1 ⟨p, rfl, hp, hb1⟩
       have HP := Lib.hid hp
       have HB1 := Lib.hid hb1
       clear hp hb1 HD1)
    | (go_at_call 34
       with_reducible refine (HD2.out W1 HB1.out).mono ?_
       rintro e W2 ⟨q, rfl, hq, hb2⟩
       have HQ := Lib.hid hq
       have HP2 := Lib.hid (HP.out.below hb2)
       have HB2 := Lib.hid (HB1.out.trans (hb2.mono HB1.out.size))
       clear hq hb2)
    | (go_at_call 35
       with_reducible refine (dn_equal a b p q W2 HP2.out HQ.out HGA.out HGB.out).mono ?_
       rintro e W3 ⟨rfl, hb3⟩))
  go_ret
  exact ⟨rfl, HB2.out.trans (hb3.mono HB2.out.size)⟩

set_option maxHeartbeats 800000 in
set_option maxRecDepth 100000 in
theorem equalFoldDN_any (a b : List (List S53)) (A B : Option Addr) (c d : Nat) (w : World) (hA : (Kd.slice 53 k53).C w A a.length a) (hB : (Kd.slice 53 k53).C w B b.length b) (gA : GoodD a) (gB : GoodD b) :
    Calls Tryd.prog 18 #[.slice A a.length c, .slice B b.length d] w fun e w' => e = .returned (.bool (dnEq true a b)) ∧ Below w.heap.size w w' := by
  have HD1 := Lib.hid (dn_any a A c w hA gA.len (fun r hr => (gA.part r hr).1))
  have HD2 := Lib.hid (fun W (hb : Below w.heap.size w W) => dn_any b B d W (Kd.C_below hB hb) gB.len (fun r hr => (gB.part r hr).1))
  have HGA := Lib.hid gA
  have HGB := Lib.hid gB
  clear hA hB gA gB
  go_enter Tryd.func18, Tryd.ntmps18
  go_wp2_with (first
    | (go_at_call 34
       with_reducible refine HD1.out.mono ?_
       rintro e W1 ⟨p, rfl, hp, hb1⟩
       have HP := Lib.hid hp
       have HB1 := Lib.hid hb1
       clear hp hb1 HD1)
    | (go_at_call 34
       with_reducible refine (HD2.out W1 HB1.out).mono ?_
       rintro e W2 ⟨q, rfl, hq, hb2⟩
       have HQ := Lib.hid hq
       have HP2 := Lib.hid (HP.out.below hb2)
       have HB2 := Lib.hid (HB1.out.trans (hb2.mono HB1.out.size))
       clear hq hb2)
    | (go_at_call 37
       with_reducible refine (dn_fold a b p q W2 HP2.out HQ.out HGA.out HGB.out).mono ?_
       rintro e W3 ⟨rfl, hb3⟩))
  go_ret
  exact ⟨rfl, HB2.out.trans (hb3.mono HB2.out.size)⟩

set_option maxHeartbeats 800000 in
set_option maxRecDepth 100000 in
theorem ancestorDN_any (a b : List (List S53)) (A B : Option Addr) (c d : Nat) (w : World) (hA : (Kd.slice 53 k53).C w A a.length a) (hB : (Kd.slice 53 k53).C w B b.length b) (gA : GoodD a) (gB : GoodD b) :
    Calls Tryd.prog 19 #[.slice A a.length c, .slice B b.length d] w fun e w' => e = .returned (.bool (ancEq false a b)) ∧ Below w.heap.size w w' := by
  have HD1 := Lib.hid (dn_any a A c w hA gA.len (fun r hr => (gA.part r hr).1))
  have HD2 := Lib.hid (fun W (hb : Below w.heap.size w W) => dn_any b B d W (Kd.C_below hB hb) gB.len (fun r hr => (gB.part r hr).1))
  have HGA := Lib.hid gA
  have HGB := Lib.hid gB
  clear hA hB gA gB
  go_enter Tryd.func19, Tryd.ntmps19
  go_wp2_with (first
    | (go_at_call 34
       with_reducible refine HD1.out.mono ?_
       rintro e W1 ⟨p, rfl, hp, hb1⟩
       have HP := Lib.hid hp
       have HB1 := Lib.hid hb1
       clear hp hb1 HD1)
    | (go_at_call 34
       with_reducible refine (HD2.out W1 HB1.out).mono ?_
       rintro e W2 ⟨q, rfl, hq, hb2⟩
       have HQ := Lib.hid hq
       have HP2 := Lib.hid (HP.out.below hb2)
       have HB2 := Lib.hid (HB1.out.trans (hb2.mono HB1.out.size))
       clear hq hb2)
    | (go_at_call 38
       with_reducible refine (anc_equal a b p q W2 HP2.out HQ.out HGA.out HGB.out).mono ?_
       rintro e W3 ⟨rfl, hb3⟩))
  go_ret
  exact ⟨rfl, HB2.out.trans (hb3.mono HB2.out.size)⟩

set_option maxHeartbeats 800000 in
set_option maxRecDepth 100000 in
theorem ancestorFoldDN_any (a b : List (List S53)) (A B : Option Addr) (c d : Nat) (w : World) (hA : (Kd.slice 53 k53).C w A a.length a) (hB : (Kd.slice 53 k53).C w B b.length b) (gA : GoodD a) (gB : GoodD b) :
    Calls Tryd.prog 21 #[.slice A a.length c, .slice B b.length d] w fun e w' => e = .returned (.bool (ancEq true a b)) ∧ Below w.heap.size w w' := by
  have HD1 := Lib.hid (dn_any a A c w hA gA.len (fun r hr => (gA.part r hr).1))
  have HD2 := Lib.hid (fun W (hb : Below w.heap.size w W) => dn_any b B d W (Kd.C_below hB hb) gB.len (fun r hr => (gB.part r hr).1))
  have HGA := Lib.hid gA
  have HGB := Lib.hid gB
  clear hA hB gA gB
  go_enter Tryd.func21, Tryd.ntmps21
  go_wp2_with (first
    | (go_at_call 34
       with_reducible refine HD1.out.mono ?_
       rintro e W1 ⟨p, rfl, hp, hb1⟩
       have HP := Lib.hid hp
       have HB1 := Lib.hid hb1
       clear hp hb1 HD1)
    | (go_at_call 34
       with_reducible refine (HD2.out W1 HB1.out).mono ?_
       rintro e W2 ⟨q, rfl, hq, hb2⟩
       have HQ := Lib.hid hq
       have HP2 := Lib.hid (HP.out.below hb2)
       have HB2 := Lib.hid (HB1.out.trans (hb2.mono HB1.out.size))
       clear hq hb2)
    | (go_at_call 39
       with_reducible refine (anc_fold a b p q W2 HP2.out HQ.out HGA.out HGB.out).mono ?_
       rintro e W3 ⟨rfl, hb3⟩))
  go_ret
  exact ⟨rfl, HB2.out.trans (hb3.mono HB2.out.size)⟩
end Go.Proofs.YtcohjechpnlogaaDoor.Dn
