/-
  No cell of these rows narrows 'for every input' (looked for: loops, veiled, ifaces, maps, wideKeys, modest, calm, conditions, laid).
  DERIVED. THE GIVEN ROWS OF THIS SEAT. 3 by the template 'for every input the law returns true; each argument reads behind the call as it read before'; 0 by the template 'total and deterministic' (their statements: Qxb6615213aTotals.lean).
  GIVEN WITH THE SEED: the statements are not yours to turn. If you find one false, say at which input.
  Laid BY PROGRAM, IN A SANDBOX (cutbox-rows.mjs): the forced cells as the released guide's own fill.sh prints them over the translation 64a5418812588a7f… (all of the seat's roots in one cut). By AI agents, Wed Nov 11 2026. No macro, syntax, notation, axiom, sorry.
-/
import Derived.Test.Qxb6615213aChecked
import GoSem.Claim
import GoSem.ClaimJoined
import GoSem.ClaimMapViews
import Derived.JoinedTies
import Derived.KernelRfl
namespace Go.Proofs.Qxb6615213a
/- THE CELL 'sum', in the pinned program and in every row, IS THE sha256 OF THE DUMP (.gsa) THAT Qxb6615213aProg.lean LOADS. Nothing in Lean hashes anything: it is a label: what it is worth is what the hold of that sum in a sandbox is worth. -/
noncomputable def Try.pinned : Pinned := { name := "qxb6615213a", sum := "64a5418812588a7fa62e1768aef8eca71868d1e574a05baf9b00650d84418e97", checked := Try.checked }
namespace Rows
def none {H : Type} : Left H := { results := [], args := [] }

/-- 'zzlaws_pkg_interchange_b1.FnIsIndexCaseBlindOnFirstEightBytes': WHATEVER THE INPUT: true; the input reads as it did. -/
def fnIsIndexCaseBlindOnFirstEightBytesSpec : ChangeSpec := { name := "fnIsIndexCaseBlindOnFirstEightBytes", fn := fun _ => fun
  | [d1, d2] => { results := [.lit (.bool true)], args := [d1, d2] }
  | _ => none }
def fnIsIndexCaseBlindOnFirstEightBytesRow : OpenClaim := { program := "qxb6615213a", sum := "64a5418812588a7fa62e1768aef8eca71868d1e574a05baf9b00650d84418e97", func := "example.com/zhaomu/zhaomu/zzlaws_pkg_interchange_b1.FnIsIndexCaseBlindOnFirstEightBytes", spec := "fnIsIndexCaseBlindOnFirstEightBytes", apart := false }
def FnIsIndexCaseBlindOnFirstEightBytesSaid : Prop := fnIsIndexCaseBlindOnFirstEightBytesRow.holds Try.pinned (OpenSpec.ofChange fnIsIndexCaseBlindOnFirstEightBytesSpec)

/-- ITS FALSE NEIGHBOUR: 'it returns false'. Refute it at one input. -/
def fnIsIndexCaseBlindOnFirstEightBytesWrong : ChangeSpec := { name := "fnIsIndexCaseBlindOnFirstEightBytes", fn := fun _ => fun
  | [d1, d2] => { results := [.lit (.bool false)], args := [d1, d2] }
  | _ => none }
def FnIsIndexCaseBlindOnFirstEightBytesWrongFalsely : Prop := fnIsIndexCaseBlindOnFirstEightBytesRow.holds Try.pinned (OpenSpec.ofChange fnIsIndexCaseBlindOnFirstEightBytesWrong)

/-- 'zzlaws_pkg_interchange_b1.FnIsIndexEveryCaseOfMarkerNoOtherByte': WHATEVER THE INPUT: true; the input reads as it did. -/
def fnIsIndexEveryCaseOfMarkerNoOtherByteSpec : ChangeSpec := { name := "fnIsIndexEveryCaseOfMarkerNoOtherByte", fn := fun _ => fun
  | [d1, d2, d3, d4] => { results := [.lit (.bool true)], args := [d1, d2, d3, d4] }
  | _ => none }
def fnIsIndexEveryCaseOfMarkerNoOtherByteRow : OpenClaim := { program := "qxb6615213a", sum := "64a5418812588a7fa62e1768aef8eca71868d1e574a05baf9b00650d84418e97", func := "example.com/zhaomu/zhaomu/zzlaws_pkg_interchange_b1.FnIsIndexEveryCaseOfMarkerNoOtherByte", spec := "fnIsIndexEveryCaseOfMarkerNoOtherByte", apart := false }
def FnIsIndexEveryCaseOfMarkerNoOtherByteSaid : Prop := fnIsIndexEveryCaseOfMarkerNoOtherByteRow.holds Try.pinned (OpenSpec.ofChange fnIsIndexEveryCaseOfMarkerNoOtherByteSpec)

/-- ITS FALSE NEIGHBOUR: 'it returns false'. Refute it at one input. -/
def fnIsIndexEveryCaseOfMarkerNoOtherByteWrong : ChangeSpec := { name := "fnIsIndexEveryCaseOfMarkerNoOtherByte", fn := fun _ => fun
  | [d1, d2, d3, d4] => { results := [.lit (.bool false)], args := [d1, d2, d3, d4] }
  | _ => none }
def FnIsIndexEveryCaseOfMarkerNoOtherByteWrongFalsely : Prop := fnIsIndexEveryCaseOfMarkerNoOtherByteRow.holds Try.pinned (OpenSpec.ofChange fnIsIndexEveryCaseOfMarkerNoOtherByteWrong)

/-- 'zzlaws_pkg_interchange_b1.FnBytesIsFreshCopyOfRecordText': WHATEVER THE INPUT: true; the input reads as it did. -/
def fnBytesIsFreshCopyOfRecordTextSpec : ChangeSpec := { name := "fnBytesIsFreshCopyOfRecordText", fn := fun _ => fun
  | [d1, d2] => { results := [.lit (.bool true)], args := [d1, d2] }
  | _ => none }
def fnBytesIsFreshCopyOfRecordTextRow : OpenClaim := { program := "qxb6615213a", sum := "64a5418812588a7fa62e1768aef8eca71868d1e574a05baf9b00650d84418e97", func := "example.com/zhaomu/zhaomu/zzlaws_pkg_interchange_b1.FnBytesIsFreshCopyOfRecordText", spec := "fnBytesIsFreshCopyOfRecordText", apart := false }
def FnBytesIsFreshCopyOfRecordTextSaid : Prop := fnBytesIsFreshCopyOfRecordTextRow.holds Try.pinned (OpenSpec.ofChange fnBytesIsFreshCopyOfRecordTextSpec)

/-- ITS FALSE NEIGHBOUR: 'it returns false'. Refute it at one input. -/
def fnBytesIsFreshCopyOfRecordTextWrong : ChangeSpec := { name := "fnBytesIsFreshCopyOfRecordText", fn := fun _ => fun
  | [d1, d2] => { results := [.lit (.bool false)], args := [d1, d2] }
  | _ => none }
def FnBytesIsFreshCopyOfRecordTextWrongFalsely : Prop := fnBytesIsFreshCopyOfRecordTextRow.holds Try.pinned (OpenSpec.ofChange fnBytesIsFreshCopyOfRecordTextWrong)

end Rows
end Go.Proofs.Qxb6615213a
