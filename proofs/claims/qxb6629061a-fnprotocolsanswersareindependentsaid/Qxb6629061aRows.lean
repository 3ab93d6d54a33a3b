/-
  No cell of these rows narrows 'for every input' (looked for: loops, veiled, ifaces, maps, wideKeys, modest, calm, conditions, laid).
  DERIVED. THE GIVEN ROWS OF THIS SEAT. 2 by the template 'for every input the law returns true; each argument reads behind the call as it read before'; 0 by the template 'total and deterministic' (their statements: Qxb6629061aTotals.lean).
  GIVEN WITH THE SEED: the statements are not yours to turn. If you find one false, say at which input.
  Laid BY PROGRAM, IN A SANDBOX (cutbox-rows.mjs): the forced cells as the released guide's own fill.sh prints them over the translation 4b1c37dc4bd60458… (all of the seat's roots in one cut). By AI agents, Wed Nov 11 2026. No macro, syntax, notation, axiom, sorry.
-/
import Derived.Test.Qxb6629061aChecked
import GoSem.Claim
import GoSem.ClaimJoined
import GoSem.ClaimMapViews
import Derived.JoinedTies
import Derived.KernelRfl
namespace Go.Proofs.Qxb6629061a
/- THE CELL 'sum', in the pinned program and in every row, IS THE sha256 OF THE DUMP (.gsa) THAT Qxb6629061aProg.lean LOADS. Nothing in Lean hashes anything: it is a label: what it is worth is what the hold of that sum in a sandbox is worth. -/
noncomputable def Try.pinned : Pinned := { name := "qxb6629061a", sum := "4b1c37dc4bd60458eceb81a53f19151e8ea60142c8479323d0ada077d0eeac6e", checked := Try.checked }
namespace Rows
def none {H : Type} : Left H := { results := [], args := [] }

/-- 'zzlaws_packet_b1.FnProtocolsEachNamedOnceInOrder': WHATEVER THE INPUT: true; the input reads as it did. -/
def fnProtocolsEachNamedOnceInOrderSpec : ChangeSpec := { name := "fnProtocolsEachNamedOnceInOrder", fn := fun _ => fun
  | [] => { results := [.lit (.bool true)], args := [] }
  | _ => none }
def fnProtocolsEachNamedOnceInOrderRow : OpenClaim := { program := "qxb6629061a", sum := "4b1c37dc4bd60458eceb81a53f19151e8ea60142c8479323d0ada077d0eeac6e", func := "example.com/stratum-zero/stratum-zero/zzlaws_packet_b1.FnProtocolsEachNamedOnceInOrder", spec := "fnProtocolsEachNamedOnceInOrder", apart := false }
def FnProtocolsEachNamedOnceInOrderSaid : Prop := fnProtocolsEachNamedOnceInOrderRow.holds Try.pinned (OpenSpec.ofChange fnProtocolsEachNamedOnceInOrderSpec)

/-- ITS FALSE NEIGHBOUR: 'it returns false'. Refute it at one input. -/
def fnProtocolsEachNamedOnceInOrderWrong : ChangeSpec := { name := "fnProtocolsEachNamedOnceInOrder", fn := fun _ => fun
  | [] => { results := [.lit (.bool false)], args := [] }
  | _ => none }
def FnProtocolsEachNamedOnceInOrderWrongFalsely : Prop := fnProtocolsEachNamedOnceInOrderRow.holds Try.pinned (OpenSpec.ofChange fnProtocolsEachNamedOnceInOrderWrong)

/-- 'zzlaws_packet_b1.FnProtocolsAnswersAreIndependent': WHATEVER THE INPUT: true; the input reads as it did. -/
def fnProtocolsAnswersAreIndependentSpec : ChangeSpec := { name := "fnProtocolsAnswersAreIndependent", fn := fun _ => fun
  | [] => { results := [.lit (.bool true)], args := [] }
  | _ => none }
def fnProtocolsAnswersAreIndependentRow : OpenClaim := { program := "qxb6629061a", sum := "4b1c37dc4bd60458eceb81a53f19151e8ea60142c8479323d0ada077d0eeac6e", func := "example.com/stratum-zero/stratum-zero/zzlaws_packet_b1.FnProtocolsAnswersAreIndependent", spec := "fnProtocolsAnswersAreIndependent", apart := false }
def FnProtocolsAnswersAreIndependentSaid : Prop := fnProtocolsAnswersAreIndependentRow.holds Try.pinned (OpenSpec.ofChange fnProtocolsAnswersAreIndependentSpec)

/-- ITS FALSE NEIGHBOUR: 'it returns false'. Refute it at one input. -/
def fnProtocolsAnswersAreIndependentWrong : ChangeSpec := { name := "fnProtocolsAnswersAreIndependent", fn := fun _ => fun
  | [] => { results := [.lit (.bool false)], args := [] }
  | _ => none }
def FnProtocolsAnswersAreIndependentWrongFalsely : Prop := fnProtocolsAnswersAreIndependentRow.holds Try.pinned (OpenSpec.ofChange fnProtocolsAnswersAreIndependentWrong)

end Rows
end Go.Proofs.Qxb6629061a
