import Derived.Test.Qxb6629061aRows
import Derived.Test.Qxb6629061aWalks
import Derived.WalkSmall
import Derived.WalkKit
import Derived.ProofKit
namespace Go.Proofs.Qxb6629061a.fnProtocolsEachNamedOnceInOrder
open Go.ChangeShapes Go.WideShapes Go.ChangeAt Go.RowKit
set_option linter.unusedVariables false      -- a walk need not use every 'w<i>' (that an integer argument fits its kind)

theorem own : ownKnob Try.prog.godebug = none := by kernel_rfl

theorem walk  (w : World) :
    Calls Try.prog 3 #[] w fun e w' => e = .returned (.bool true) ∧ Below w.heap.size w w' := by
  go_enter Try.func3, Try.ntmps3
  go_wp2_with (first
    | (go_at_call 5; refine (Walks.protocols_any _).mono ?_; rintro e w1 ⟨v, rfl, hown, hb⟩; obtain ⟨g, cap, rfl, h0, h1, h2⟩ := Walks.cells_of hown)
    | (go_at_call 6; refine (Walks.each_any _ _ _ (by assumption) (by assumption) (by assumption)).mono ?_; rintro e w2 ⟨rfl, n, rfl⟩))
  go_ret
  exact ⟨rfl, below_drewN hb _⟩

/-! ### THE ROW's STEP: WRITTEN OUT: LEAVE IT -/
set_option maxRecDepth 100000 in
theorem lifted (os : Os) (started : os.Started) (H : Type) (enc : TypeId × Value → H) :
    ReturnsInHanded {} Try.checked os 3 .any (Rows.fnProtocolsEachNamedOnceInOrderSpec.pre6 enc Try.prog Try.f3 Rows.fnProtocolsEachNamedOnceInOrderRow.domain false) (Rows.fnProtocolsEachNamedOnceInOrderSpec.post enc Try.prog Try.f3 false true false false) := by
  refine returnsInHanded_of_change (C := Try.checked) own started (by kernel_rfl) Try.func3
    (ChangeSpec.witness6 (enc := enc) (C := Try.checked) false ⟨#[], #[], []⟩ 8 (by kernel_rfl) (by kernel_rfl) (by kernel_rfl) (by kernel_rfl)) ?_
  intro W base args ds gs before hval0 hW hcnd _
  have hval : ∀ (j : Nat) t v, Try.f3.params[j]? = some t → args[j]? = some v → Value.okWide Try.prog W .any base t v := hval0
  have hW' := hW
  obtain ⟨p, q, hA0, hV, rfl, hfz, hnd⟩ := hW
  have hA : DataW.TrodAll enc Try.prog W 0 (fun _ => true) true Try.f3.params.toList args.toList ds p := hA0
  rw [Try.params3] at hA hval
  obtain ⟨rfl, rfl, rfl⟩ := trodAll_none hA
  obtain ⟨rfl, rfl⟩ := trodVars_none hV
  clear hA0 hval0
  simp only [List.append_nil] at hW'
  refine (walk  W).mono fun e W' ⟨he, hg⟩ => ?_
  subst he
  exact ⟨_, rfl, _, _, _, [], _, [], hW', trodAll_mk1 (shut_bool Try.underlying4 _), trodAll_mk0, rfl, hg.frame _, fun h => by cases h⟩

theorem over : Rows.fnProtocolsEachNamedOnceInOrderRow.holds Try.pinned (OpenSpec.ofChange Rows.fnProtocolsEachNamedOnceInOrderSpec) :=
  OpenClaim.holds_of_wide 3 Try.f3 rfl rfl rfl rfl rfl rfl rfl ⟨rfl, rfl, rfl, rfl, rfl⟩ rfl rfl rfl rfl rfl (by kernel_rfl) Try.func3 (by kernel_rfl)
    (of_decide_eq_true (by kernel_rfl)) (by unfold Func.isWrapper; first | (rw [if_pos (by decide +kernel)]; kernel_rfl) | (rw [if_neg (by decide +kernel)]; exact ⟨rfl, rfl⟩))
    (fun os started H enc _ => lifted os started H enc)

/-- ████ THE STATEMENT ████ -/
theorem proved : Rows.FnProtocolsEachNamedOnceInOrderSaid :=
  over
end Go.Proofs.Qxb6629061a.fnProtocolsEachNamedOnceInOrder
namespace Go.Proofs.Qxb6629061a
theorem fnProtocolsEachNamedOnceInOrder_proved : Rows.FnProtocolsEachNamedOnceInOrderSaid := fnProtocolsEachNamedOnceInOrder.proved
end Go.Proofs.Qxb6629061a
