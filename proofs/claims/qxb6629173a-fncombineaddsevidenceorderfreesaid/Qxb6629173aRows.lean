/-
  No cell of these rows narrows 'for every input' (looked for: loops, veiled, ifaces, maps, wideKeys, modest, calm, conditions, laid).
  DERIVED. THE GIVEN ROWS OF THIS SEAT. 2 by the template 'for every input the law returns true; each argument reads behind the call as it read before'; 0 by the template 'total and deterministic' (their statements: Qxb6629173aTotals.lean).
  GIVEN WITH THE SEED: the statements are not yours to turn. If you find one false, say at which input.
  Laid BY PROGRAM, IN A SANDBOX (cutbox-rows.mjs): the forced cells as the released guide's own fill.sh prints them over the translation 963c39066d924c45… (all of the seat's roots in one cut). By AI agents, Wed Nov 11 2026. No macro, syntax, notation, axiom, sorry.
-/
import Derived.Test.Qxb6629173aChecked
import GoSem.Claim
import GoSem.ClaimJoined
import GoSem.ClaimMapViews
import Derived.JoinedTies
import Derived.KernelRfl
namespace Go.Proofs.Qxb6629173a
/- THE CELL 'sum', in the pinned program and in every row, IS THE sha256 OF THE DUMP (.gsa) THAT Qxb6629173aProg.lean LOADS. Nothing in Lean hashes anything: it is a label: what it is worth is what the hold of that sum in a sandbox is worth. -/
noncomputable def Try.pinned : Pinned := { name := "qxb6629173a", sum := "963c39066d924c45b68a0f9f596063fb70d19ab7019f8044146512a01536228a", checked := Try.checked }
namespace Rows
def none {H : Type} : Left H := { results := [], args := [] }

/-- 'zzlaws_root_b1.FnCombineEmptyModelIsNeutral': WHATEVER THE INPUT: true; the input reads as it did. -/
def fnCombineEmptyModelIsNeutralSpec : ChangeSpec := { name := "fnCombineEmptyModelIsNeutral", fn := fun _ => fun
  | [d1, d2, d3, d4] => { results := [.lit (.bool true)], args := [d1, d2, d3, d4] }
  | _ => none }
def fnCombineEmptyModelIsNeutralRow : OpenClaim := { program := "qxb6629173a", sum := "963c39066d924c45b68a0f9f596063fb70d19ab7019f8044146512a01536228a", func := "example.com/vicinity/vicinity/zzlaws_root_b1.FnCombineEmptyModelIsNeutral", spec := "fnCombineEmptyModelIsNeutral", inPlace := ["math.archMin", "math.Float64bits", "math.Float64frombits", "math.archMax"], apart := false }
def FnCombineEmptyModelIsNeutralSaid : Prop := fnCombineEmptyModelIsNeutralRow.holds Try.pinned (OpenSpec.ofChange fnCombineEmptyModelIsNeutralSpec)

/-- ITS FALSE NEIGHBOUR: 'it returns false'. Refute it at one input. -/
def fnCombineEmptyModelIsNeutralWrong : ChangeSpec := { name := "fnCombineEmptyModelIsNeutral", fn := fun _ => fun
  | [d1, d2, d3, d4] => { results := [.lit (.bool false)], args := [d1, d2, d3, d4] }
  | _ => none }
def FnCombineEmptyModelIsNeutralWrongFalsely : Prop := fnCombineEmptyModelIsNeutralRow.holds Try.pinned (OpenSpec.ofChange fnCombineEmptyModelIsNeutralWrong)

/-- 'zzlaws_root_b1.FnCombineAddsEvidenceOrderFree': WHATEVER THE INPUT: true; the input reads as it did. -/
def fnCombineAddsEvidenceOrderFreeSpec : ChangeSpec := { name := "fnCombineAddsEvidenceOrderFree", fn := fun _ => fun
  | [d1, d2, d3, d4, d5, d6, d7, d8] => { results := [.lit (.bool true)], args := [d1, d2, d3, d4, d5, d6, d7, d8] }
  | _ => none }
def fnCombineAddsEvidenceOrderFreeRow : OpenClaim := { program := "qxb6629173a", sum := "963c39066d924c45b68a0f9f596063fb70d19ab7019f8044146512a01536228a", func := "example.com/vicinity/vicinity/zzlaws_root_b1.FnCombineAddsEvidenceOrderFree", spec := "fnCombineAddsEvidenceOrderFree", inPlace := ["math.archMin", "math.Float64bits", "math.Float64frombits", "math.archMax"], apart := false }
def FnCombineAddsEvidenceOrderFreeSaid : Prop := fnCombineAddsEvidenceOrderFreeRow.holds Try.pinned (OpenSpec.ofChange fnCombineAddsEvidenceOrderFreeSpec)

/-- ITS FALSE NEIGHBOUR: 'it returns false'. Refute it at one input. -/
def fnCombineAddsEvidenceOrderFreeWrong : ChangeSpec := { name := "fnCombineAddsEvidenceOrderFree", fn := fun _ => fun
  | [d1, d2, d3, d4, d5, d6, d7, d8] => { results := [.lit (.bool false)], args := [d1, d2, d3, d4, d5, d6, d7, d8] }
  | _ => none }
def FnCombineAddsEvidenceOrderFreeWrongFalsely : Prop := fnCombineAddsEvidenceOrderFreeRow.holds Try.pinned (OpenSpec.ofChange fnCombineAddsEvidenceOrderFreeWrong)

end Rows
end Go.Proofs.Qxb6629173a
