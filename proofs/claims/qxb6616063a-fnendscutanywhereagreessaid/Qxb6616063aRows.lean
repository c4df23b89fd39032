/-
  No cell of these rows narrows 'for every input' (looked for: loops, veiled, ifaces, maps, wideKeys, modest, calm, conditions, laid).
  DERIVED. THE GIVEN ROWS OF THIS SEAT. 1 by the template 'for every input the law returns true; each argument reads behind the call as it read before'; 0 by the template 'total and deterministic' (their statements: Qxb6616063aTotals.lean).
  GIVEN WITH THE SEED: the statements are not yours to turn. If you find one false, say at which input.
  Laid BY PROGRAM, IN A SANDBOX (cutbox-rows.mjs): the forced cells as the released guide's own fill.sh prints them over the translation 4f596e6584e5e3aa… (all of the seat's roots in one cut). By AI agents, Wed Nov 11 2026. No macro, syntax, notation, axiom, sorry.
-/
import Derived.Test.Qxb6616063aChecked
import GoSem.Claim
import GoSem.ClaimJoined
import GoSem.ClaimMapViews
import Derived.JoinedTies
import Derived.KernelRfl
namespace Go.Proofs.Qxb6616063a
/- THE CELL 'sum', in the pinned program and in every row, IS THE sha256 OF THE DUMP (.gsa) THAT Qxb6616063aProg.lean LOADS. Nothing in Lean hashes anything: it is a label: what it is worth is what the hold of that sum in a sandbox is worth. -/
noncomputable def Try.pinned : Pinned := { name := "qxb6616063a", sum := "4f596e6584e5e3aafff096943deff2a97cc9c51620b43304840d489df7009b55", checked := Try.checked }
namespace Rows
def none {H : Type} : Left H := { results := [], args := [] }

/-- 'zzlaws_pkg_canonical_b1.FnEndsCutAnywhereAgrees': WHATEVER THE INPUT: true; the input reads as it did. -/
def fnEndsCutAnywhereAgreesSpec : ChangeSpec := { name := "fnEndsCutAnywhereAgrees", fn := fun _ => fun
  | [d1, d2, d3, d4, d5, d6, d7, d8] => { results := [.lit (.bool true)], args := [d1, d2, d3, d4, d5, d6, d7, d8] }
  | _ => none }
def fnEndsCutAnywhereAgreesRow : OpenClaim := { program := "qxb6616063a", sum := "4f596e6584e5e3aafff096943deff2a97cc9c51620b43304840d489df7009b55", func := "example.com/dimro/dimro/zzlaws_pkg_canonical_b1.FnEndsCutAnywhereAgrees", spec := "fnEndsCutAnywhereAgrees", apart := false }
def FnEndsCutAnywhereAgreesSaid : Prop := fnEndsCutAnywhereAgreesRow.holds Try.pinned (OpenSpec.ofChange fnEndsCutAnywhereAgreesSpec)

/-- ITS FALSE NEIGHBOUR: 'it returns false'. Refute it at one input. -/
def fnEndsCutAnywhereAgreesWrong : ChangeSpec := { name := "fnEndsCutAnywhereAgrees", fn := fun _ => fun
  | [d1, d2, d3, d4, d5, d6, d7, d8] => { results := [.lit (.bool false)], args := [d1, d2, d3, d4, d5, d6, d7, d8] }
  | _ => none }
def FnEndsCutAnywhereAgreesWrongFalsely : Prop := fnEndsCutAnywhereAgreesRow.holds Try.pinned (OpenSpec.ofChange fnEndsCutAnywhereAgreesWrong)

end Rows
end Go.Proofs.Qxb6616063a
