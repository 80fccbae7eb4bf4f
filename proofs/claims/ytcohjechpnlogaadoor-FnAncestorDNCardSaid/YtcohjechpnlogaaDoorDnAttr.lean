/- (*AttributeTypeAndValue).Equal and EqualFold, on texts of ASCII. -/
import Derived.Test.YtcohjechpnlogaaDoorDnKinds
import Derived.Test.YtcohjechpnlogaaDoorShelf
import Derived.Deep.QuietTactic
import Derived.BigQuiet
namespace Go.Proofs.YtcohjechpnlogaaDoor.Dn
open Go.RowKit Go.Proofs.YtcohjechpnlogaaDoorW.PrintWords Go.Proofs.YtcohjechpnlogaaDoor.PDN
set_option linter.unusedVariables false
set_option linter.unusedSimpArgs false

/-- a text of ASCII, of some length -/
structure Plain (s : ByteArray) : Prop where
  size : s.size < 4294967281
  ascii : ∀ (j : Nat) b, s.data.toList[j]? = some b → b.toNat < 128

def eqF (s t : ByteArray) : Bool := Lib.equalFold s.data.toList t.data.toList
/-- attributes are equal: the types in letters of any size; the values, too, if it is asked -/
def eqA (fold : Bool) (x y : S53) : Bool := eqF x.f0 y.f0 && (if fold then eqF x.f1 y.f1 else (x.f1.toList == y.f1.toList))
structure PlainA (x : S53) : Prop where
  ty : Plain x.f0
  val : Plain x.f1

set_option maxHeartbeats 800000 in
set_option maxRecDepth 100000 in
theorem attr_equal (x y : S53) (b c : Nat) (w : World) (hx : IsA w b x) (hy : IsA w c y) (px : PlainA x) (py : PlainA y) :
    Calls Tryd.prog 62 #[.pointer (some ⟨b, 0, none⟩), .pointer (some ⟨c, 0, none⟩)] w fun e w' => e = .returned (.bool (eqA false x y)) ∧ Below w.heap.size w w' := by
  have a0 : w.cell? ⟨b, 0, none⟩ = some (.string x.f0) := blk_cell hx 0
  have a1 : w.cell? ⟨b, 1, none⟩ = some (.string x.f1) := blk_cell hx 1
  have c0 : w.cell? ⟨c, 0, none⟩ = some (.string y.f0) := blk_cell hy 0
  have c1 : w.cell? ⟨c, 1, none⟩ = some (.string y.f1) := blk_cell hy 1
  obtain ⟨r, hr⟩ : ∃ r, r = eqF x.f0 y.f0 := ⟨_, rfl⟩
  have HC : Hid (∀ W, Calls Tryd.prog 65 #[.string x.f0, .string y.f0] W fun e w' => e = .returned (.bool r) ∧ w' = W) := Lib.hid (fun W => hr ▸ Tryd.strings_EqualFold x.f0 y.f0 W px.ty.size px.ty.ascii py.ty.ascii)
  obtain ⟨fin, hfin⟩ : ∃ fin, fin = eqA false x y := ⟨_, rfl⟩
  rw [← hfin]
  have HF : Hid (fin = (r && (x.f1.toList == y.f1.toList))) := Lib.hid (by rw [hfin, eqA, ← hr]; rfl)
  clear hfin hr hx hy px py
  cases r with
  | true =>
    go_enter Tryd.func62, Tryd.ntmps62
    go_wp2
    go_quiet ((go_at_call 65; exact Calls.quiet_of_same (HC.out _)))
    go_wp2
    go_ret
    refine ⟨?_, pw_below_drewN (Below.refl _ _) _⟩
    rw [HF.out]
    rfl
  | false =>
    go_enter Tryd.func62, Tryd.ntmps62
    go_wp2
    go_quiet ((go_at_call 65; exact Calls.quiet_of_same (HC.out _)))
    go_wp2
    go_ret
    refine ⟨?_, pw_below_drewN (Below.refl _ _) _⟩
    rw [HF.out]
    rfl

set_option maxHeartbeats 800000 in
set_option maxRecDepth 100000 in
theorem attr_fold (x y : S53) (b c : Nat) (w : World) (hx : IsA w b x) (hy : IsA w c y) (px : PlainA x) (py : PlainA y) :
    Calls Tryd.prog 63 #[.pointer (some ⟨b, 0, none⟩), .pointer (some ⟨c, 0, none⟩)] w fun e w' => e = .returned (.bool (eqA true x y)) ∧ Below w.heap.size w w' := by
  have a0 : w.cell? ⟨b, 0, none⟩ = some (.string x.f0) := blk_cell hx 0
  have a1 : w.cell? ⟨b, 1, none⟩ = some (.string x.f1) := blk_cell hx 1
  have c0 : w.cell? ⟨c, 0, none⟩ = some (.string y.f0) := blk_cell hy 0
  have c1 : w.cell? ⟨c, 1, none⟩ = some (.string y.f1) := blk_cell hy 1
  obtain ⟨r, hr⟩ : ∃ r, r = eqF x.f0 y.f0 := ⟨_, rfl⟩
  have HC : Hid (∀ W, Calls Tryd.prog 65 #[.string x.f0, .string y.f0] W fun e w' => e = .returned (.bool r) ∧ w' = W) := Lib.hid (fun W => hr ▸ Tryd.strings_EqualFold x.f0 y.f0 W px.ty.size px.ty.ascii py.ty.ascii)
  have HC2 : Hid (∀ W, Calls Tryd.prog 65 #[.string x.f1, .string y.f1] W fun e w' => e = .returned (.bool (eqF x.f1 y.f1)) ∧ w' = W) := Lib.hid (fun W => Tryd.strings_EqualFold x.f1 y.f1 W px.val.size px.val.ascii py.val.ascii)
  obtain ⟨fin, hfin⟩ : ∃ fin, fin = eqA true x y := ⟨_, rfl⟩
  rw [← hfin]
  have HF : Hid (fin = (r && eqF x.f1 y.f1)) := Lib.hid (by rw [hfin, eqA, ← hr]; rfl)
  clear hfin hr hx hy px py
  cases r with
  | true =>
    go_enter Tryd.func63, Tryd.ntmps63
    go_wp2
    go_quiet (first | (go_at_call 65; with_reducible exact Calls.quiet_of_same (HC.out _)) | (go_at_call 65; with_reducible exact Calls.quiet_of_same (HC2.out _)))
    go_wp2
    go_ret
    refine ⟨?_, pw_below_drewN (Below.refl _ _) _⟩
    rw [HF.out]
    rfl
  | false =>
    go_enter Tryd.func63, Tryd.ntmps63
    go_wp2
    go_quiet ((go_at_call 65; exact Calls.quiet_of_same (HC.out _)))
    go_wp2
    go_ret
    refine ⟨?_, pw_below_drewN (Below.refl _ _) _⟩
    rw [HF.out]
    rfl
end Go.Proofs.YtcohjechpnlogaaDoor.Dn
