/-
  No cell of these rows narrows 'for every input' (looked for: loops, veiled, ifaces, maps, wideKeys, modest, calm, conditions, laid).
  DERIVED. THE GIVEN ROWS OF THIS SEAT. 2 by the template 'for every input the law returns true; each argument reads behind the call as it read before'; 0 by the template 'total and deterministic' (their statements: Qxb6629217aTotals.lean).
  GIVEN WITH THE SEED: the statements are not yours to turn. If you find one false, say at which input.
  Laid BY PROGRAM, IN A SANDBOX (cutbox-rows.mjs): the forced cells as the released guide's own fill.sh prints them over the translation b6e13b678c9db55f… (all of the seat's roots in one cut). By AI agents, Wed Nov 11 2026. No macro, syntax, notation, axiom, sorry.
-/
import Derived.Test.Qxb6629217aChecked
import GoSem.Claim
import GoSem.ClaimJoined
import GoSem.ClaimMapViews
import Derived.JoinedTies
import Derived.KernelRfl
namespace Go.Proofs.Qxb6629217a
/- THE CELL 'sum', in the pinned program and in every row, IS THE sha256 OF THE DUMP (.gsa) THAT Qxb6629217aProg.lean LOADS. Nothing in Lean hashes anything: it is a label: what it is worth is what the hold of that sum in a sandbox is worth. -/
noncomputable def Try.pinned : Pinned := { name := "qxb6629217a", sum := "b6e13b678c9db55f70822ed1079cc211d79c588b32993e3c30aa8ea931ab09d5", checked := Try.checked }
namespace Rows
def none {H : Type} : Left H := { results := [], args := [] }

/-- 'zzlaws_root_b1.FnRelateMatchesPointwiseOrder': WHATEVER THE INPUT: true; the input reads as it did. -/
def fnRelateMatchesPointwiseOrderSpec : ChangeSpec := { name := "fnRelateMatchesPointwiseOrder", fn := fun _ => fun
  | [d1, d2, d3, d4] => { results := [.lit (.bool true)], args := [d1, d2, d3, d4] }
  | _ => none }
def fnRelateMatchesPointwiseOrderRow : OpenClaim := { program := "qxb6629217a", sum := "b6e13b678c9db55f70822ed1079cc211d79c588b32993e3c30aa8ea931ab09d5", func := "example.com/happenstance/happenstance/zzlaws_root_b1.FnRelateMatchesPointwiseOrder", spec := "fnRelateMatchesPointwiseOrder", inPlace := ["internal/bytealg.abigen_runtime_cmpstring"], apart := false }
def FnRelateMatchesPointwiseOrderSaid : Prop := fnRelateMatchesPointwiseOrderRow.holds Try.pinned (OpenSpec.ofChange fnRelateMatchesPointwiseOrderSpec)

/-- ITS FALSE NEIGHBOUR: 'it returns false'. Refute it at one input. -/
def fnRelateMatchesPointwiseOrderWrong : ChangeSpec := { name := "fnRelateMatchesPointwiseOrder", fn := fun _ => fun
  | [d1, d2, d3, d4] => { results := [.lit (.bool false)], args := [d1, d2, d3, d4] }
  | _ => none }
def FnRelateMatchesPointwiseOrderWrongFalsely : Prop := fnRelateMatchesPointwiseOrderRow.holds Try.pinned (OpenSpec.ofChange fnRelateMatchesPointwiseOrderWrong)

/-- 'zzlaws_root_b1.FnRelateSameIsIdentityAndMirrors': WHATEVER THE INPUT: true; the input reads as it did. -/
def fnRelateSameIsIdentityAndMirrorsSpec : ChangeSpec := { name := "fnRelateSameIsIdentityAndMirrors", fn := fun _ => fun
  | [d1, d2, d3, d4] => { results := [.lit (.bool true)], args := [d1, d2, d3, d4] }
  | _ => none }
def fnRelateSameIsIdentityAndMirrorsRow : OpenClaim := { program := "qxb6629217a", sum := "b6e13b678c9db55f70822ed1079cc211d79c588b32993e3c30aa8ea931ab09d5", func := "example.com/happenstance/happenstance/zzlaws_root_b1.FnRelateSameIsIdentityAndMirrors", spec := "fnRelateSameIsIdentityAndMirrors", inPlace := ["internal/bytealg.abigen_runtime_cmpstring"], apart := false }
def FnRelateSameIsIdentityAndMirrorsSaid : Prop := fnRelateSameIsIdentityAndMirrorsRow.holds Try.pinned (OpenSpec.ofChange fnRelateSameIsIdentityAndMirrorsSpec)

/-- ITS FALSE NEIGHBOUR: 'it returns false'. Refute it at one input. -/
def fnRelateSameIsIdentityAndMirrorsWrong : ChangeSpec := { name := "fnRelateSameIsIdentityAndMirrors", fn := fun _ => fun
  | [d1, d2, d3, d4] => { results := [.lit (.bool false)], args := [d1, d2, d3, d4] }
  | _ => none }
def FnRelateSameIsIdentityAndMirrorsWrongFalsely : Prop := fnRelateSameIsIdentityAndMirrorsRow.holds Try.pinned (OpenSpec.ofChange fnRelateSameIsIdentityAndMirrorsWrong)

end Rows
end Go.Proofs.Qxb6629217a
