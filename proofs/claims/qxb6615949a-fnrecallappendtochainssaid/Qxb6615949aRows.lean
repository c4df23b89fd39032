/-
  No cell of these rows narrows 'for every input' (looked for: loops, veiled, ifaces, maps, wideKeys, modest, calm, conditions, laid).
  DERIVED. THE GIVEN ROWS OF THIS SEAT. 4 by the template 'for every input the law returns true; each argument reads behind the call as it read before'; 0 by the template 'total and deterministic' (their statements: Qxb6615949aTotals.lean).
  GIVEN WITH THE SEED: the statements are not yours to turn. If you find one false, say at which input.
  Laid BY PROGRAM, IN A SANDBOX (cutbox-rows.mjs): the forced cells as the released guide's own fill.sh prints them over the translation cfd428022ee116ce… (all of the seat's roots in one cut). By AI agents, Wed Nov 11 2026. No macro, syntax, notation, axiom, sorry.
-/
import Derived.Test.Qxb6615949aChecked
import GoSem.Claim
import GoSem.ClaimJoined
import GoSem.ClaimMapViews
import Derived.JoinedTies
import Derived.KernelRfl
namespace Go.Proofs.Qxb6615949a
/- THE CELL 'sum', in the pinned program and in every row, IS THE sha256 OF THE DUMP (.gsa) THAT Qxb6615949aProg.lean LOADS. Nothing in Lean hashes anything: it is a label: what it is worth is what the hold of that sum in a sandbox is worth. -/
noncomputable def Try.pinned : Pinned := { name := "qxb6615949a", sum := "cfd428022ee116ce3bdc36188d59bf85cc905eec1de6e1d42ec7efcd852ee9c5", checked := Try.checked }
namespace Rows
def none {H : Type} : Left H := { results := [], args := [] }

/-- 'zzlaws_paxos_b1.FnRecallAppendToAgreesWithAppendBallot': WHATEVER THE INPUT: true; the input reads as it did. -/
def fnRecallAppendToAgreesWithAppendBallotSpec : ChangeSpec := { name := "fnRecallAppendToAgreesWithAppendBallot", fn := fun _ => fun
  | [d1, d2, d3] => { results := [.lit (.bool true)], args := [d1, d2, d3] }
  | _ => none }
def fnRecallAppendToAgreesWithAppendBallotRow : OpenClaim := { program := "qxb6615949a", sum := "cfd428022ee116ce3bdc36188d59bf85cc905eec1de6e1d42ec7efcd852ee9c5", func := "example.com/bulkhead/bulkhead/zzlaws_paxos_b1.FnRecallAppendToAgreesWithAppendBallot", spec := "fnRecallAppendToAgreesWithAppendBallot", apart := false }
def FnRecallAppendToAgreesWithAppendBallotSaid : Prop := fnRecallAppendToAgreesWithAppendBallotRow.holds Try.pinned (OpenSpec.ofChange fnRecallAppendToAgreesWithAppendBallotSpec)

/-- ITS FALSE NEIGHBOUR: 'it returns false'. Refute it at one input. -/
def fnRecallAppendToAgreesWithAppendBallotWrong : ChangeSpec := { name := "fnRecallAppendToAgreesWithAppendBallot", fn := fun _ => fun
  | [d1, d2, d3] => { results := [.lit (.bool false)], args := [d1, d2, d3] }
  | _ => none }
def FnRecallAppendToAgreesWithAppendBallotWrongFalsely : Prop := fnRecallAppendToAgreesWithAppendBallotRow.holds Try.pinned (OpenSpec.ofChange fnRecallAppendToAgreesWithAppendBallotWrong)

/-- 'zzlaws_paxos_b1.FnRecallAppendToChains': WHATEVER THE INPUT: true; the input reads as it did. -/
def fnRecallAppendToChainsSpec : ChangeSpec := { name := "fnRecallAppendToChains", fn := fun _ => fun
  | [d1, d2, d3, d4, d5] => { results := [.lit (.bool true)], args := [d1, d2, d3, d4, d5] }
  | _ => none }
def fnRecallAppendToChainsRow : OpenClaim := { program := "qxb6615949a", sum := "cfd428022ee116ce3bdc36188d59bf85cc905eec1de6e1d42ec7efcd852ee9c5", func := "example.com/bulkhead/bulkhead/zzlaws_paxos_b1.FnRecallAppendToChains", spec := "fnRecallAppendToChains", apart := false }
def FnRecallAppendToChainsSaid : Prop := fnRecallAppendToChainsRow.holds Try.pinned (OpenSpec.ofChange fnRecallAppendToChainsSpec)

/-- ITS FALSE NEIGHBOUR: 'it returns false'. Refute it at one input. -/
def fnRecallAppendToChainsWrong : ChangeSpec := { name := "fnRecallAppendToChains", fn := fun _ => fun
  | [d1, d2, d3, d4, d5] => { results := [.lit (.bool false)], args := [d1, d2, d3, d4, d5] }
  | _ => none }
def FnRecallAppendToChainsWrongFalsely : Prop := fnRecallAppendToChainsRow.holds Try.pinned (OpenSpec.ofChange fnRecallAppendToChainsWrong)

/-- 'zzlaws_paxos_b1.FnAppendBallotIsInjective': WHATEVER THE INPUT: true; the input reads as it did. -/
def fnAppendBallotIsInjectiveSpec : ChangeSpec := { name := "fnAppendBallotIsInjective", fn := fun _ => fun
  | [d1, d2, d3, d4, d5] => { results := [.lit (.bool true)], args := [d1, d2, d3, d4, d5] }
  | _ => none }
def fnAppendBallotIsInjectiveRow : OpenClaim := { program := "qxb6615949a", sum := "cfd428022ee116ce3bdc36188d59bf85cc905eec1de6e1d42ec7efcd852ee9c5", func := "example.com/bulkhead/bulkhead/zzlaws_paxos_b1.FnAppendBallotIsInjective", spec := "fnAppendBallotIsInjective", apart := false }
def FnAppendBallotIsInjectiveSaid : Prop := fnAppendBallotIsInjectiveRow.holds Try.pinned (OpenSpec.ofChange fnAppendBallotIsInjectiveSpec)

/-- ITS FALSE NEIGHBOUR: 'it returns false'. Refute it at one input. -/
def fnAppendBallotIsInjectiveWrong : ChangeSpec := { name := "fnAppendBallotIsInjective", fn := fun _ => fun
  | [d1, d2, d3, d4, d5] => { results := [.lit (.bool false)], args := [d1, d2, d3, d4, d5] }
  | _ => none }
def FnAppendBallotIsInjectiveWrongFalsely : Prop := fnAppendBallotIsInjectiveRow.holds Try.pinned (OpenSpec.ofChange fnAppendBallotIsInjectiveWrong)

/-- 'zzlaws_paxos_b1.FnFrontDoorLostIsOrderFreeAndIdempotent': WHATEVER THE INPUT: true; the input reads as it did. -/
def fnFrontDoorLostIsOrderFreeAndIdempotentSpec : ChangeSpec := { name := "fnFrontDoorLostIsOrderFreeAndIdempotent", fn := fun _ => fun
  | [d1, d2, d3, d4] => { results := [.lit (.bool true)], args := [d1, d2, d3, d4] }
  | _ => none }
def fnFrontDoorLostIsOrderFreeAndIdempotentRow : OpenClaim := { program := "qxb6615949a", sum := "cfd428022ee116ce3bdc36188d59bf85cc905eec1de6e1d42ec7efcd852ee9c5", func := "example.com/bulkhead/bulkhead/zzlaws_paxos_b1.FnFrontDoorLostIsOrderFreeAndIdempotent", spec := "fnFrontDoorLostIsOrderFreeAndIdempotent", unfollowed := true, recurses := true, apart := false }
def FnFrontDoorLostIsOrderFreeAndIdempotentSaid : Prop := fnFrontDoorLostIsOrderFreeAndIdempotentRow.holds Try.pinned (OpenSpec.ofChange fnFrontDoorLostIsOrderFreeAndIdempotentSpec)

/-- ITS FALSE NEIGHBOUR: 'it returns false'. Refute it at one input. -/
def fnFrontDoorLostIsOrderFreeAndIdempotentWrong : ChangeSpec := { name := "fnFrontDoorLostIsOrderFreeAndIdempotent", fn := fun _ => fun
  | [d1, d2, d3, d4] => { results := [.lit (.bool false)], args := [d1, d2, d3, d4] }
  | _ => none }
def FnFrontDoorLostIsOrderFreeAndIdempotentWrongFalsely : Prop := fnFrontDoorLostIsOrderFreeAndIdempotentRow.holds Try.pinned (OpenSpec.ofChange fnFrontDoorLostIsOrderFreeAndIdempotentWrong)

end Rows
end Go.Proofs.Qxb6615949a
