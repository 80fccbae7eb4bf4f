/- What an argument of type impl.Packet reads as: a tree, its lengths within what memory holds. -/
import Derived.Test.YtcohjechpnlogaaDoorOpen
import Derived.Test.YtcohjechpnlogaaDoorWithin
namespace Go.Proofs.YtcohjechpnlogaaDoor.Open
open Go.RowKit Go.Proofs.YtcohjechpnlogaaDoorW.PrintWords Go.Proofs.YtcohjechpnlogaaDoor.PFnEncode Go.Proofs.YtcohjechpnlogaaDoor.Within
set_option linter.unusedVariables false
set_option linter.unusedSimpArgs false
section
variable {H : Type} {enc : TypeId × Value → H} {W : World}

theorem opens25 (N : Nat) : Opens enc Tryd.prog W N 25 k25 (fun x => lens x = true) := by
  refine Opens.fix (F := F25) (fun N k hsz h => ?_) N
  have hs : Opens enc Tryd.prog W (N + 1) 23 (Kd.slice 25 k) _ := Opens.slice h Tryd.underlying23 (hsz.trans (by kernel_rfl)) (of_decide_eq_true (by kernel_rfl))
  have hb : Opens enc Tryd.prog W (N + 1) 22 (Kd.slice 5 (Kd.int .u8)) _ := Opens.slice (opens_int N Tryd.underlying5) Tryd.underlying22 (by kernel_rfl) (of_decide_eq_true (by kernel_rfl))
  have hst := Opens.struct (P := Tryd.prog) Tryd.underlying25 (OpensFrom.cons (opens_int (N + 1) (k := .i64) Tryd.underlying3)
    (OpensFrom.cons (opens_int (N + 1) (k := .i64) Tryd.underlying3)
      (OpensFrom.cons (opens_bool (N + 1) Tryd.underlying4)
        (OpensFrom.cons hb (OpensFrom.one hs (by kernel_rfl) (by kernel_rfl)) (by kernel_rfl)) (by kernel_rfl)) (by kernel_rfl)) (by kernel_rfl))
  refine ((hst.iso (fun x : S25 => (x.f0, x.f1, x.f2, x.f3, x.f4)) (fun y => ⟨y.1, y.2.1, y.2.2.1, y.2.2.2.1, y.2.2.2.2⟩) (fun _ => rfl)).down (by omega)).imp ?_
  rintro ⟨a, b, c, d, l⟩ ⟨_, _, _, ⟨h3, _⟩, h4, h5⟩
  rw [lens, lensL_all]
  simp only [Bool.and_eq_true, decide_eq_true_eq]
  exact ⟨⟨h3, h4⟩, List.all_eq_true.2 h5⟩
end
end Go.Proofs.YtcohjechpnlogaaDoor.Open
