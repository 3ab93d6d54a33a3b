import Derived.Test.Qxb6629061aRows
import Derived.Test.Qxb6629061aWalks
import Derived.WalkSmall
import Derived.WalkKit
import Derived.ProofKit
namespace Go.Proofs.Qxb6629061a.fnProtocolsAnswersAreIndependent
open Go.ChangeShapes Go.WideShapes Go.ChangeAt Go.RowKit
set_option linter.unusedVariables false      -- a walk need not use every 'w<i>' (that an integer argument fits its kind)

theorem own : ownKnob Try.prog.godebug = none := by kernel_rfl

theorem walk  (w : World) :
    Calls Try.prog 4 #[] w fun e w' => e = .returned (.bool true) ∧ Below w.heap.size w w' := by
  go_enter Try.func4, Try.ntmps4
  go_wp2_with fail
  refine (Walks.protocols_any _).mono ?_
  rintro e w1 ⟨v, rfl, hown1, hb1⟩
  go_wp2_with fail
  refine (Walks.protocols_any _).mono ?_
  rintro e w2 ⟨v2, rfl, hown2, hb2⟩
  obtain ⟨g2, cap2, rfl, c20, c21, c22⟩ := Walks.cells_of hown2
  obtain ⟨g1, cap1, rfl, _, _, _⟩ := Walks.cells_of hown1
  have hg1 := hown1.lt g1 rfl
  have hg2 := hown2.lt g2 rfl
  have hown := Walks.kept_below hown1 hb2
  have hb := hb1.trans (hb2.mono hb1.size)
  have hne : g1 ≠ g2 := by omega
  clear hown1 hown2 hb1 hb2
  go_wp2
  go_loopw [3] (fun i wr => ∃ k : Nat, k ≤ 3 ∧ i = .int .i64 (k : Int) ∧ (∃ xs, wr.ownsRow w.heap.size 26 1 (.slice (some ⟨g1, 0, none⟩) 3 cap1) 3 xs) ∧
    wr.cell? ⟨g2, 0, none⟩ = some (.int .u8 1) ∧ wr.cell? ⟨g2, 1, none⟩ = some (.int .u8 2) ∧ wr.cell? ⟨g2, 2, none⟩ = some (.int .u8 3) ∧ Below w.heap.size w wr) (fun i _ => 3 - (intOf i).toNat)
  case atStart => exact ⟨0, by omega, rfl, ⟨_, hown⟩, c20, c21, c22, hb⟩
  case round =>
    clear c20 c21 c22 hown hb
    obtain ⟨k, hk, rfl, ⟨xs, hown⟩, c20, c21, c22, hb⟩ := hrel
    by_cases hlt : k < 3
    · have hfz := hown.frozenAt k
      have hst := hown.stored k (.int .u8 0)
      obtain ⟨u, hcell⟩ : ∃ u, wr.cell? ⟨g1, k, none⟩ = some u := by
        rw [hown.cellAt k (by omega)]
        have := hown.1
        exact ⟨_, List.getElem?_eq_getElem (by omega)⟩
      have HS : Hid _ := hst
      clear hst
      have e0 : (wr.setCell ⟨g1, k, none⟩ (.int .u8 0)).cell? ⟨g2, 0, none⟩ = some (.int .u8 1) := (World.cell?_setCell_other _ _ _ _ (by simp)).trans c20
      have e1 : (wr.setCell ⟨g1, k, none⟩ (.int .u8 0)).cell? ⟨g2, 1, none⟩ = some (.int .u8 2) := (World.cell?_setCell_other _ _ _ _ (by simp)).trans c21
      have e2 : (wr.setCell ⟨g1, k, none⟩ (.int .u8 0)).cell? ⟨g2, 2, none⟩ = some (.int .u8 3) := (World.cell?_setCell_other _ _ _ _ (by simp)).trans c22
      go_wp2
      go_roundw
      case rel => exact ⟨k + 1, by omega, by go_num, ⟨_, HS.out.1⟩, e0, e1, e2, hb.setCell hg1.1 _⟩
      case measure => simp [intOf]; omega
    · go_wp2_with (go_at_call 6; refine (Walks.each_any _ _ _ (by assumption) (by assumption) (by assumption)).mono ?_; rintro e w2 ⟨rfl, n, rfl⟩)
      go_ret
      exact ⟨rfl, below_drewN hb _⟩

/-! ### THE ROW's STEP: WRITTEN OUT: LEAVE IT -/
set_option maxRecDepth 100000 in
theorem lifted (os : Os) (started : os.Started) (H : Type) (enc : TypeId × Value → H) :
    ReturnsInHanded {} Try.checked os 4 .any (Rows.fnProtocolsAnswersAreIndependentSpec.pre6 enc Try.prog Try.f4 Rows.fnProtocolsAnswersAreIndependentRow.domain false) (Rows.fnProtocolsAnswersAreIndependentSpec.post enc Try.prog Try.f4 false true false false) := by
  refine returnsInHanded_of_change (C := Try.checked) own started (by kernel_rfl) Try.func4
    (ChangeSpec.witness6 (enc := enc) (C := Try.checked) false ⟨#[], #[], []⟩ 8 (by kernel_rfl) (by kernel_rfl) (by kernel_rfl) (by kernel_rfl)) ?_
  intro W base args ds gs before hval0 hW hcnd _
  have hval : ∀ (j : Nat) t v, Try.f4.params[j]? = some t → args[j]? = some v → Value.okWide Try.prog W .any base t v := hval0
  have hW' := hW
  obtain ⟨p, q, hA0, hV, rfl, hfz, hnd⟩ := hW
  have hA : DataW.TrodAll enc Try.prog W 0 (fun _ => true) true Try.f4.params.toList args.toList ds p := hA0
  rw [Try.params4] at hA hval
  obtain ⟨rfl, rfl, rfl⟩ := trodAll_none hA
  obtain ⟨rfl, rfl⟩ := trodVars_none hV
  clear hA0 hval0
  simp only [List.append_nil] at hW'
  refine (walk  W).mono fun e W' ⟨he, hg⟩ => ?_
  subst he
  exact ⟨_, rfl, _, _, _, [], _, [], hW', trodAll_mk1 (shut_bool Try.underlying4 _), trodAll_mk0, rfl, hg.frame _, fun h => by cases h⟩

theorem over : Rows.fnProtocolsAnswersAreIndependentRow.holds Try.pinned (OpenSpec.ofChange Rows.fnProtocolsAnswersAreIndependentSpec) :=
  OpenClaim.holds_of_wide 4 Try.f4 rfl rfl rfl rfl rfl rfl rfl ⟨rfl, rfl, rfl, rfl, rfl⟩ rfl rfl rfl rfl rfl (by kernel_rfl) Try.func4 (by kernel_rfl)
    (of_decide_eq_true (by kernel_rfl)) (by unfold Func.isWrapper; first | (rw [if_pos (by decide +kernel)]; kernel_rfl) | (rw [if_neg (by decide +kernel)]; exact ⟨rfl, rfl⟩))
    (fun os started H enc _ => lifted os started H enc)

/-- ████ THE STATEMENT ████ -/
theorem proved : Rows.FnProtocolsAnswersAreIndependentSaid :=
  over
end Go.Proofs.Qxb6629061a.fnProtocolsAnswersAreIndependent
namespace Go.Proofs.Qxb6629061a
theorem fnProtocolsAnswersAreIndependent_proved : Rows.FnProtocolsAnswersAreIndependentSaid := fnProtocolsAnswersAreIndependent.proved
end Go.Proofs.Qxb6629061a
