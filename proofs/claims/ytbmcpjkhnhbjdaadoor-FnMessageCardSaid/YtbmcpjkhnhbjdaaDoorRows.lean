/-
  NARROWER THAN 'FOR EVERY INPUT', by the rows' own cells (each row's printed sentence says how): FnCompareRequest: laid · FnRename: laid · FnBind: laid · FnModify: laid · FnExtended: laid · FnAdd: laid · FnMessage: loops, laid.
  DERIVED. THE GIVEN ROWS OF THIS SEAT. 7 by the template 'for every input the law returns true; each argument reads behind the call as it read before'; 0 by the template 'total and deterministic' (their statements: YtbmcpjkhnhbjdaaDoorTotals.lean).
  GIVEN WITH THE SEED: the statements are not yours to turn. If you find one false, say at which input.
  Laid BY PROGRAM, IN A SANDBOX (cutbox-rows.mjs): the forced cells as the released guide's own fill.sh prints them over the translation a79f260924631f3c… (all of the seat's roots in one cut). By AI agents, Wed Nov 11 2026. No macro, syntax, notation, axiom, sorry.
-/
import Derived.Test.YtbmcpjkhnhbjdaaDoorChecked
import GoSem.Claim
import GoSem.ClaimJoined
import GoSem.ClaimMapViews
import Derived.JoinedTies
import Derived.KernelRfl
namespace Go.Proofs.YtbmcpjkhnhbjdaaDoor
/- THE CELL 'sum', in the pinned program and in every row, IS THE sha256 OF THE DUMP (.gsa) THAT YtbmcpjkhnhbjdaaDoorProg.lean LOADS. Nothing in Lean hashes anything: it is a label: what it is worth is what the hold of that sum in a sandbox is worth. -/
noncomputable def Tryd.pinned : Pinned := { name := "ytbmcpjkhnhbjdaadoor", sum := "a79f260924631f3c1c70a02e9da4502b720681dcc4f43484db0bdeb17c45451a", checked := Tryd.checked }
namespace Rows
def none {H : Type} : Left H := { results := [], args := [] }

/- WHAT THE LISTED PACKAGE-LEVEL VARIABLES READ AS WHEN THE CALL BEGINS. Each datum BY PROGRAM (the guide's laid-datum.mjs) off the statement by which the dump's own 'gosem.cut.vars' lays the variable. In a bare row this is a premise. The card (YtbmcpjkhnhbjdaaDoorCards.lean) ties it to the program's text. -/
def laid_bytes_ErrTooLarge {H : Type} : DataW H := .iface "*errors.errorString" (.ptr (.agg [.lit (.string [98, 121, 116, 101, 115, 46, 66, 117, 102, 102, 101, 114, 58, 32, 116, 111, 111, 32, 108, 97, 114, 103, 101])]))

/-- 'laws.FnCompareRequest': WHATEVER THE INPUT: true; the input reads as it did. -/
def fnCompareRequestSpec : ChangeSpec := { name := "fnCompareRequest", fn := fun _ => fun
  | [d1, d2, d3] => { results := [.lit (.bool true)], args := [d1, d2, d3] }
  | _ => none }
def fnCompareRequestRow : OpenClaim := { program := "ytbmcpjkhnhbjdaadoor", sum := "a79f260924631f3c1c70a02e9da4502b720681dcc4f43484db0bdeb17c45451a", func := "goldap/laws.FnCompareRequest", spec := "fnCompareRequest", unfollowed := true, recurses := true, named := ["bytes.ErrTooLarge"], apart := false, laid := [("bytes.ErrTooLarge", laid_bytes_ErrTooLarge)] }
def FnCompareRequestSaid : Prop := fnCompareRequestRow.holds Tryd.pinned (OpenSpec.ofChange fnCompareRequestSpec)

/-- ITS FALSE NEIGHBOUR: 'it returns false'. Refute it at one input. -/
def fnCompareRequestWrong : ChangeSpec := { name := "fnCompareRequest", fn := fun _ => fun
  | [d1, d2, d3] => { results := [.lit (.bool false)], args := [d1, d2, d3] }
  | _ => none }
def FnCompareRequestWrongFalsely : Prop := fnCompareRequestRow.holds Tryd.pinned (OpenSpec.ofChange fnCompareRequestWrong)

/-- 'laws.FnRename': WHATEVER THE INPUT: true; the input reads as it did. -/
def fnRenameSpec : ChangeSpec := { name := "fnRename", fn := fun _ => fun
  | [d1, d2, d3, d4] => { results := [.lit (.bool true)], args := [d1, d2, d3, d4] }
  | _ => none }
def fnRenameRow : OpenClaim := { program := "ytbmcpjkhnhbjdaadoor", sum := "a79f260924631f3c1c70a02e9da4502b720681dcc4f43484db0bdeb17c45451a", func := "goldap/laws.FnRename", spec := "fnRename", unfollowed := true, recurses := true, named := ["bytes.ErrTooLarge"], apart := false, laid := [("bytes.ErrTooLarge", laid_bytes_ErrTooLarge)] }
def FnRenameSaid : Prop := fnRenameRow.holds Tryd.pinned (OpenSpec.ofChange fnRenameSpec)

/-- ITS FALSE NEIGHBOUR: 'it returns false'. Refute it at one input. -/
def fnRenameWrong : ChangeSpec := { name := "fnRename", fn := fun _ => fun
  | [d1, d2, d3, d4] => { results := [.lit (.bool false)], args := [d1, d2, d3, d4] }
  | _ => none }
def FnRenameWrongFalsely : Prop := fnRenameRow.holds Tryd.pinned (OpenSpec.ofChange fnRenameWrong)

/-- 'laws.FnBind': WHATEVER THE INPUT: true; the input reads as it did. -/
def fnBindSpec : ChangeSpec := { name := "fnBind", fn := fun _ => fun
  | [d1, d2] => { results := [.lit (.bool true)], args := [d1, d2] }
  | _ => none }
def fnBindRow : OpenClaim := { program := "ytbmcpjkhnhbjdaadoor", sum := "a79f260924631f3c1c70a02e9da4502b720681dcc4f43484db0bdeb17c45451a", func := "goldap/laws.FnBind", spec := "fnBind", unfollowed := true, recurses := true, named := ["bytes.ErrTooLarge"], apart := false, laid := [("bytes.ErrTooLarge", laid_bytes_ErrTooLarge)] }
def FnBindSaid : Prop := fnBindRow.holds Tryd.pinned (OpenSpec.ofChange fnBindSpec)

/-- ITS FALSE NEIGHBOUR: 'it returns false'. Refute it at one input. -/
def fnBindWrong : ChangeSpec := { name := "fnBind", fn := fun _ => fun
  | [d1, d2] => { results := [.lit (.bool false)], args := [d1, d2] }
  | _ => none }
def FnBindWrongFalsely : Prop := fnBindRow.holds Tryd.pinned (OpenSpec.ofChange fnBindWrong)

/-- 'laws.FnModify': WHATEVER THE INPUT: true; the input reads as it did. -/
def fnModifySpec : ChangeSpec := { name := "fnModify", fn := fun _ => fun
  | [d1, d2] => { results := [.lit (.bool true)], args := [d1, d2] }
  | _ => none }
def fnModifyRow : OpenClaim := { program := "ytbmcpjkhnhbjdaadoor", sum := "a79f260924631f3c1c70a02e9da4502b720681dcc4f43484db0bdeb17c45451a", func := "goldap/laws.FnModify", spec := "fnModify", unfollowed := true, recurses := true, named := ["bytes.ErrTooLarge"], apart := false, laid := [("bytes.ErrTooLarge", laid_bytes_ErrTooLarge)] }
def FnModifySaid : Prop := fnModifyRow.holds Tryd.pinned (OpenSpec.ofChange fnModifySpec)

/-- ITS FALSE NEIGHBOUR: 'it returns false'. Refute it at one input. -/
def fnModifyWrong : ChangeSpec := { name := "fnModify", fn := fun _ => fun
  | [d1, d2] => { results := [.lit (.bool false)], args := [d1, d2] }
  | _ => none }
def FnModifyWrongFalsely : Prop := fnModifyRow.holds Tryd.pinned (OpenSpec.ofChange fnModifyWrong)

/-- 'laws.FnExtended': WHATEVER THE INPUT: true; the input reads as it did. -/
def fnExtendedSpec : ChangeSpec := { name := "fnExtended", fn := fun _ => fun
  | [d1, d2, d3, d4, d5] => { results := [.lit (.bool true)], args := [d1, d2, d3, d4, d5] }
  | _ => none }
def fnExtendedRow : OpenClaim := { program := "ytbmcpjkhnhbjdaadoor", sum := "a79f260924631f3c1c70a02e9da4502b720681dcc4f43484db0bdeb17c45451a", func := "goldap/laws.FnExtended", spec := "fnExtended", unfollowed := true, recurses := true, named := ["bytes.ErrTooLarge"], apart := false, laid := [("bytes.ErrTooLarge", laid_bytes_ErrTooLarge)] }
def FnExtendedSaid : Prop := fnExtendedRow.holds Tryd.pinned (OpenSpec.ofChange fnExtendedSpec)

/-- ITS FALSE NEIGHBOUR: 'it returns false'. Refute it at one input. -/
def fnExtendedWrong : ChangeSpec := { name := "fnExtended", fn := fun _ => fun
  | [d1, d2, d3, d4, d5] => { results := [.lit (.bool false)], args := [d1, d2, d3, d4, d5] }
  | _ => none }
def FnExtendedWrongFalsely : Prop := fnExtendedRow.holds Tryd.pinned (OpenSpec.ofChange fnExtendedWrong)

/-- 'laws.FnAdd': WHATEVER THE INPUT: true; the input reads as it did. -/
def fnAddSpec : ChangeSpec := { name := "fnAdd", fn := fun _ => fun
  | [d1, d2] => { results := [.lit (.bool true)], args := [d1, d2] }
  | _ => none }
def fnAddRow : OpenClaim := { program := "ytbmcpjkhnhbjdaadoor", sum := "a79f260924631f3c1c70a02e9da4502b720681dcc4f43484db0bdeb17c45451a", func := "goldap/laws.FnAdd", spec := "fnAdd", unfollowed := true, recurses := true, named := ["bytes.ErrTooLarge"], apart := false, laid := [("bytes.ErrTooLarge", laid_bytes_ErrTooLarge)] }
def FnAddSaid : Prop := fnAddRow.holds Tryd.pinned (OpenSpec.ofChange fnAddSpec)

/-- ITS FALSE NEIGHBOUR: 'it returns false'. Refute it at one input. -/
def fnAddWrong : ChangeSpec := { name := "fnAdd", fn := fun _ => fun
  | [d1, d2] => { results := [.lit (.bool false)], args := [d1, d2] }
  | _ => none }
def FnAddWrongFalsely : Prop := fnAddRow.holds Tryd.pinned (OpenSpec.ofChange fnAddWrong)

/-- 'laws.FnMessage': WHATEVER THE INPUT: true; the input reads as it did. -/
def fnMessageSpec : ChangeSpec := { name := "fnMessage", fn := fun _ => fun
  | [d1, d2, d3] => { results := [.lit (.bool true)], args := [d1, d2, d3] }
  | _ => none }
def fnMessageRow : OpenClaim := { program := "ytbmcpjkhnhbjdaadoor", sum := "a79f260924631f3c1c70a02e9da4502b720681dcc4f43484db0bdeb17c45451a", func := "goldap/laws.FnMessage", spec := "fnMessage", unfollowed := true, recurses := true, named := ["bytes.ErrTooLarge"], loops := true, apart := false, laid := [("bytes.ErrTooLarge", laid_bytes_ErrTooLarge)] }
def FnMessageSaid : Prop := fnMessageRow.holds Tryd.pinned (OpenSpec.ofChange fnMessageSpec)

/-- ITS FALSE NEIGHBOUR: 'it returns false'. Refute it at one input. -/
def fnMessageWrong : ChangeSpec := { name := "fnMessage", fn := fun _ => fun
  | [d1, d2, d3] => { results := [.lit (.bool false)], args := [d1, d2, d3] }
  | _ => none }
def FnMessageWrongFalsely : Prop := fnMessageRow.holds Tryd.pinned (OpenSpec.ofChange fnMessageWrong)

/- THE SECOND FORM. 'bulk': how many values and letters a reading holds, each counted each time it is reached (what is shared counts as often as it is met; a slice's spare places count too). A statement '..UptoSaid' is the law's where the arguments, and the package variables that the reading takes, are together of bulk at most 1048576: NARROWER than '..Said'. Prove '..Said' where nothing that the law and all that it calls make is longer than what came in: it says more and counts as full. Else prove '..UptoSaid'. A law counts once. -/
mutual
def uptoBulk {H : Type} : DataW H → Nat
  | .lit (.string bytes) => bytes.length + 1
  | .lit _ => 1
  | .nil => 1
  | .ptr d => uptoBulk d + 1
  | .slice elems spare => uptoBulkAll elems + uptoBulkAll spare + 1
  | .agg parts => uptoBulkAll parts + 1
  | .iface _ d => uptoBulk d + 1
  | .map entries => uptoBulkEntries entries + 1
  | .held _ => 1
def uptoBulkAll {H : Type} : List (DataW H) → Nat
  | [] => 0
  | d :: r => uptoBulk d + uptoBulkAll r
def uptoBulkEntries {H : Type} : List (Lit × DataW H) → Nat
  | [] => 0
  | x :: r => uptoBulkEntry x + uptoBulkEntries r
def uptoBulkEntry {H : Type} : Lit × DataW H → Nat
  | (.string bytes, d) => bytes.length + uptoBulk d + 1
  | (_, d) => uptoBulk d + 1
 end
def uptoSmall : (H : Type) → List (DataW H) → Bool := fun _ ds => decide (uptoBulkAll ds ≤ 1048576)
def OpenSpec.upto (s : _root_.Go.ChangeSpec) : _root_.Go.OpenSpec := { _root_.Go.OpenSpec.ofChange s with cond := some uptoSmall }

/-- 'laws.FnCompareRequest', WHERE WHAT IT READS IS OF BULK AT MOST 1048576: true; the input reads as it did. -/
def fnCompareRequestUptoRow : OpenClaim := { program := "ytbmcpjkhnhbjdaadoor", sum := "a79f260924631f3c1c70a02e9da4502b720681dcc4f43484db0bdeb17c45451a", func := "goldap/laws.FnCompareRequest", spec := "fnCompareRequest", unfollowed := true, recurses := true, named := ["bytes.ErrTooLarge"], apart := false, laid := [("bytes.ErrTooLarge", laid_bytes_ErrTooLarge)], narrowed := true }
def FnCompareRequestUptoSaid : Prop := fnCompareRequestUptoRow.holds Tryd.pinned (OpenSpec.upto fnCompareRequestSpec)

/-- 'laws.FnRename', WHERE WHAT IT READS IS OF BULK AT MOST 1048576: true; the input reads as it did. -/
def fnRenameUptoRow : OpenClaim := { program := "ytbmcpjkhnhbjdaadoor", sum := "a79f260924631f3c1c70a02e9da4502b720681dcc4f43484db0bdeb17c45451a", func := "goldap/laws.FnRename", spec := "fnRename", unfollowed := true, recurses := true, named := ["bytes.ErrTooLarge"], apart := false, laid := [("bytes.ErrTooLarge", laid_bytes_ErrTooLarge)], narrowed := true }
def FnRenameUptoSaid : Prop := fnRenameUptoRow.holds Tryd.pinned (OpenSpec.upto fnRenameSpec)

/-- 'laws.FnBind', WHERE WHAT IT READS IS OF BULK AT MOST 1048576: true; the input reads as it did. -/
def fnBindUptoRow : OpenClaim := { program := "ytbmcpjkhnhbjdaadoor", sum := "a79f260924631f3c1c70a02e9da4502b720681dcc4f43484db0bdeb17c45451a", func := "goldap/laws.FnBind", spec := "fnBind", unfollowed := true, recurses := true, named := ["bytes.ErrTooLarge"], apart := false, laid := [("bytes.ErrTooLarge", laid_bytes_ErrTooLarge)], narrowed := true }
def FnBindUptoSaid : Prop := fnBindUptoRow.holds Tryd.pinned (OpenSpec.upto fnBindSpec)

/-- 'laws.FnModify', WHERE WHAT IT READS IS OF BULK AT MOST 1048576: true; the input reads as it did. -/
def fnModifyUptoRow : OpenClaim := { program := "ytbmcpjkhnhbjdaadoor", sum := "a79f260924631f3c1c70a02e9da4502b720681dcc4f43484db0bdeb17c45451a", func := "goldap/laws.FnModify", spec := "fnModify", unfollowed := true, recurses := true, named := ["bytes.ErrTooLarge"], apart := false, laid := [("bytes.ErrTooLarge", laid_bytes_ErrTooLarge)], narrowed := true }
def FnModifyUptoSaid : Prop := fnModifyUptoRow.holds Tryd.pinned (OpenSpec.upto fnModifySpec)

/-- 'laws.FnExtended', WHERE WHAT IT READS IS OF BULK AT MOST 1048576: true; the input reads as it did. -/
def fnExtendedUptoRow : OpenClaim := { program := "ytbmcpjkhnhbjdaadoor", sum := "a79f260924631f3c1c70a02e9da4502b720681dcc4f43484db0bdeb17c45451a", func := "goldap/laws.FnExtended", spec := "fnExtended", unfollowed := true, recurses := true, named := ["bytes.ErrTooLarge"], apart := false, laid := [("bytes.ErrTooLarge", laid_bytes_ErrTooLarge)], narrowed := true }
def FnExtendedUptoSaid : Prop := fnExtendedUptoRow.holds Tryd.pinned (OpenSpec.upto fnExtendedSpec)

/-- 'laws.FnAdd', WHERE WHAT IT READS IS OF BULK AT MOST 1048576: true; the input reads as it did. -/
def fnAddUptoRow : OpenClaim := { program := "ytbmcpjkhnhbjdaadoor", sum := "a79f260924631f3c1c70a02e9da4502b720681dcc4f43484db0bdeb17c45451a", func := "goldap/laws.FnAdd", spec := "fnAdd", unfollowed := true, recurses := true, named := ["bytes.ErrTooLarge"], apart := false, laid := [("bytes.ErrTooLarge", laid_bytes_ErrTooLarge)], narrowed := true }
def FnAddUptoSaid : Prop := fnAddUptoRow.holds Tryd.pinned (OpenSpec.upto fnAddSpec)

/-- 'laws.FnMessage', WHERE WHAT IT READS IS OF BULK AT MOST 1048576: true; the input reads as it did. -/
def fnMessageUptoRow : OpenClaim := { program := "ytbmcpjkhnhbjdaadoor", sum := "a79f260924631f3c1c70a02e9da4502b720681dcc4f43484db0bdeb17c45451a", func := "goldap/laws.FnMessage", spec := "fnMessage", unfollowed := true, recurses := true, named := ["bytes.ErrTooLarge"], loops := true, apart := false, laid := [("bytes.ErrTooLarge", laid_bytes_ErrTooLarge)], narrowed := true }
def FnMessageUptoSaid : Prop := fnMessageUptoRow.holds Tryd.pinned (OpenSpec.upto fnMessageSpec)

end Rows
end Go.Proofs.YtbmcpjkhnhbjdaaDoor
