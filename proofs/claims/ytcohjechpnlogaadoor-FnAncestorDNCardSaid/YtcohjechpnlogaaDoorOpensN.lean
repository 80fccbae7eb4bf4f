/- What an argument of type [][]impl.Name reads as. -/
import Derived.Test.YtcohjechpnlogaaDoorOpen
import Derived.Test.YtcohjechpnlogaaDoorPDNx
namespace Go.Proofs.YtcohjechpnlogaaDoor.Open
open Go.RowKit Go.Proofs.YtcohjechpnlogaaDoorW.PrintWords Go.Proofs.YtcohjechpnlogaaDoor.PDN
set_option linter.unusedVariables false
set_option linter.unusedSimpArgs false
section
variable {H : Type} {enc : TypeId × Value → H} {W : World}
theorem opensN (N : Nat) : Opens enc Tryd.prog W (N + 3) 35 (Kd.slice 49 (Kd.slice 53 k53)) (fun _ => True) := by
  have hst := Opens.struct (P := Tryd.prog) (enc := enc) (W := W) (N := N) Tryd.underlying53 (OpensFrom.cons (opens_string N Tryd.underlying9) (OpensFrom.one (opens_string N Tryd.underlying9) (by kernel_rfl) (by kernel_rfl)) (by kernel_rfl))
  have hn := (hst.iso (fun x : S53 => (x.f0, x.f1)) (fun y => ⟨y.1, y.2⟩) (fun _ => rfl))
  have h1 : Opens enc Tryd.prog W (N + 2) 49 (Kd.slice 53 k53) _ := Opens.slice hn Tryd.underlying49 (by kernel_rfl) (of_decide_eq_true (by kernel_rfl))
  exact (Opens.slice h1 Tryd.underlying35 (by kernel_rfl) (of_decide_eq_true (by kernel_rfl))).imp (fun _ _ => trivial)
end
end Go.Proofs.YtcohjechpnlogaaDoor.Open
