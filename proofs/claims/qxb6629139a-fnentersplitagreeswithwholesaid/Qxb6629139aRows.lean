/-
  No cell of these rows narrows 'for every input' (looked for: loops, veiled, ifaces, maps, wideKeys, modest, calm, conditions, laid).
  DERIVED. THE GIVEN ROWS OF THIS SEAT. 2 by the template 'for every input the law returns true; each argument reads behind the call as it read before'; 0 by the template 'total and deterministic' (their statements: Qxb6629139aTotals.lean).
  GIVEN WITH THE SEED: the statements are not yours to turn. If you find one false, say at which input.
  Laid BY PROGRAM, IN A SANDBOX (cutbox-rows.mjs): the forced cells as the released guide's own fill.sh prints them over the translation ed621fd373b83bbf… (all of the seat's roots in one cut). By AI agents, Wed Nov 11 2026. No macro, syntax, notation, axiom, sorry.
-/
import Derived.Test.Qxb6629139aChecked
import GoSem.Claim
import GoSem.ClaimJoined
import GoSem.ClaimMapViews
import Derived.JoinedTies
import Derived.KernelRfl
namespace Go.Proofs.Qxb6629139a
/- THE CELL 'sum', in the pinned program and in every row, IS THE sha256 OF THE DUMP (.gsa) THAT Qxb6629139aProg.lean LOADS. Nothing in Lean hashes anything: it is a label: what it is worth is what the hold of that sum in a sandbox is worth. -/
noncomputable def Try.pinned : Pinned := { name := "qxb6629139a", sum := "ed621fd373b83bbfb53220ae127e66c903f4d322286d10f9f2fdc4cbe53b652f", checked := Try.checked }
namespace Rows
def none {H : Type} : Left H := { results := [], args := [] }

/-- 'zzlaws_instance_b1.FnEnterKeepsMostRecentDistinctInUseOrder': WHATEVER THE INPUT: true; the input reads as it did. -/
def fnEnterKeepsMostRecentDistinctInUseOrderSpec : ChangeSpec := { name := "fnEnterKeepsMostRecentDistinctInUseOrder", fn := fun _ => fun
  | [d1, d2, d3] => { results := [.lit (.bool true)], args := [d1, d2, d3] }
  | _ => none }
def fnEnterKeepsMostRecentDistinctInUseOrderRow : OpenClaim := { program := "qxb6629139a", sum := "ed621fd373b83bbfb53220ae127e66c903f4d322286d10f9f2fdc4cbe53b652f", func := "example.com/tollgate/tollgate/zzlaws_instance_b1.FnEnterKeepsMostRecentDistinctInUseOrder", spec := "fnEnterKeepsMostRecentDistinctInUseOrder", apart := false }
def FnEnterKeepsMostRecentDistinctInUseOrderSaid : Prop := fnEnterKeepsMostRecentDistinctInUseOrderRow.holds Try.pinned (OpenSpec.ofChange fnEnterKeepsMostRecentDistinctInUseOrderSpec)

/-- ITS FALSE NEIGHBOUR: 'it returns false'. Refute it at one input. -/
def fnEnterKeepsMostRecentDistinctInUseOrderWrong : ChangeSpec := { name := "fnEnterKeepsMostRecentDistinctInUseOrder", fn := fun _ => fun
  | [d1, d2, d3] => { results := [.lit (.bool false)], args := [d1, d2, d3] }
  | _ => none }
def FnEnterKeepsMostRecentDistinctInUseOrderWrongFalsely : Prop := fnEnterKeepsMostRecentDistinctInUseOrderRow.holds Try.pinned (OpenSpec.ofChange fnEnterKeepsMostRecentDistinctInUseOrderWrong)

/-- 'zzlaws_instance_b1.FnEnterSplitAgreesWithWhole': WHATEVER THE INPUT: true; the input reads as it did. -/
def fnEnterSplitAgreesWithWholeSpec : ChangeSpec := { name := "fnEnterSplitAgreesWithWhole", fn := fun _ => fun
  | [d1, d2, d3] => { results := [.lit (.bool true)], args := [d1, d2, d3] }
  | _ => none }
def fnEnterSplitAgreesWithWholeRow : OpenClaim := { program := "qxb6629139a", sum := "ed621fd373b83bbfb53220ae127e66c903f4d322286d10f9f2fdc4cbe53b652f", func := "example.com/tollgate/tollgate/zzlaws_instance_b1.FnEnterSplitAgreesWithWhole", spec := "fnEnterSplitAgreesWithWhole", apart := false }
def FnEnterSplitAgreesWithWholeSaid : Prop := fnEnterSplitAgreesWithWholeRow.holds Try.pinned (OpenSpec.ofChange fnEnterSplitAgreesWithWholeSpec)

/-- ITS FALSE NEIGHBOUR: 'it returns false'. Refute it at one input. -/
def fnEnterSplitAgreesWithWholeWrong : ChangeSpec := { name := "fnEnterSplitAgreesWithWhole", fn := fun _ => fun
  | [d1, d2, d3] => { results := [.lit (.bool false)], args := [d1, d2, d3] }
  | _ => none }
def FnEnterSplitAgreesWithWholeWrongFalsely : Prop := fnEnterSplitAgreesWithWholeRow.holds Try.pinned (OpenSpec.ofChange fnEnterSplitAgreesWithWholeWrong)

end Rows
end Go.Proofs.Qxb6629139a
