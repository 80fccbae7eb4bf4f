/- Parts of the proof of one law, in the order in which they build. spec.Read keeps its contract: laws.FnDecodeAny answers true at every argument. -/
import Derived.Test.YtejbpbdlolehnaaDoorAny1
import Derived.Test.YtejbpbdlolehnaaDoorAny2
import Derived.Test.YtejbpbdlolehnaaDoorAny3
import Derived.Test.YtejbpbdlolehnaaDoorAny4
import Derived.Test.YtejbpbdlolehnaaDoorAny5
import Derived.Test.YtejbpbdlolehnaaDoorAny6
import Derived.Test.YtejbpbdlolehnaaDoorAny7
import Derived.Test.YtejbpbdlolehnaaDoorAny8
import Derived.Test.YtejbpbdlolehnaaDoorAny9
import Derived.Test.YtejbpbdlolehnaaDoorAny10
import Derived.Test.YtejbpbdlolehnaaDoorAny11
import Derived.Test.YtejbpbdlolehnaaDoorAny12
import Derived.Test.YtejbpbdlolehnaaDoorAny13
import Derived.Test.YtejbpbdlolehnaaDoorAny14
import Derived.Test.YtejbpbdlolehnaaDoorAny15
namespace Go.Proofs.YtejbpbdlolehnaaDoor.Ber
open Go.RowKit Go.Proofs.YtejbpbdlolehnaaDoorW.PrintWords Go.Proofs.YtejbpbdlolehnaaDoorW.PrintLast Go.Proofs.YtejbpbdlolehnaaDoor.Buf Go.Proofs.YtejbpbdlolehnaaDoor.Pk Go.Proofs.YtejbpbdlolehnaaDoor.Tree Go.Proofs.YtejbpbdlolehnaaDoor.Num Go.Proofs.YtejbpbdlolehnaaDoor.Ident Go.Proofs.YtejbpbdlolehnaaDoor.PFnEncode Go.Proofs.YtejbpbdlolehnaaDoor.Within
theorem readC : ReadC := by
  intro W A c k l x m ok hA hl hf
  have hF : Kd.F (Kd.int .u8) W (fun _ => True) A l.length l := fun W' hk => Kd.Heap.C (Kd.heap_int _) (fun j hj => hk j trivial hj) hA
  refine (spec_Read.calls k (fun _ => True) A c l _ _ _ _ _ _ _ W (Kd.V_mk hl hF) hf).mono ?_
  rintro e w' ⟨v3, v4, he, h3, h4, hB⟩
  obtain ⟨A5, c5, hv3⟩ := Kd.R_slice h3
  obtain ⟨A6, c6, hv4⟩ := Kd.R_slice h4
  subst hv3 hv4
  exact ⟨A5, c5, A6, c6, he, ⟨(Kd.R_reads' h3).2.2, (Kd.R_reads' h3).2.1, (Kd.R_reads' h4).2.2, (Kd.R_reads' h4).2.1⟩, hB⟩
theorem fnDecodeAny_all (bh : List Int) (Ab : Option Addr) (cb : Nat) (w : World) (hb : B8.C w Ab bh.length bh) (lb : bh.length ≤ cb) (hbr : ∀ y ∈ bh, 0 ≤ y ∧ y < 256) (va ua : Addr) (hE : EofAt w va ua) :
    Calls Tryd.prog 4 #[.slice Ab bh.length cb] w fun e w' => e = .returned (.bool true) ∧ Below w.heap.size w w' :=
  fnDecodeAny_any readC bh Ab cb w hb lb hbr va ua hE
end Go.Proofs.YtejbpbdlolehnaaDoor.Ber
