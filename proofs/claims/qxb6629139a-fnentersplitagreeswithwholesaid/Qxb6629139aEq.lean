/- zzEqualInstanceB1, zzBytes_.. -/
import Derived.Test.Qxb6629139aLru
namespace Go.Proofs.Qxb6629139a.Walks
open Go.RowKit Go.Proofs.Qxb6629139a.Plain
set_option linter.unusedVariables false

set_option maxHeartbeats 1000000 in
theorem equal_any {w : World} {g1 g2 c1 c2 : Nat} {l : List Int} (hl : l.length ≤ 40000)
    (h1 : ∀ k, k < l.length → w.cell? ⟨g1, k, none⟩ = some (.int .i64 (l.getD k 0))) (h2 : ∀ k, k < l.length → w.cell? ⟨g2, k, none⟩ = some (.int .i64 (l.getD k 0))) :
    Calls Try.prog 10 #[.slice (some ⟨g1, 0, none⟩) l.length c1, .slice (some ⟨g2, 0, none⟩) l.length c2] w fun e w' => e = .returned (.bool true) ∧ ∃ n, w' = w.drewN n := by
  have H1 : Hid _ := h1
  have H2 : Hid _ := h2
  clear h1 h2
  go_enter Try.func10, Try.ntmps10
  go_wp2
  go_loopw [5] (fun i wr => ∃ k : Nat, k ≤ l.length ∧ i = .int .i64 k ∧ ∃ n, wr = w.drewN n) (fun i _ => l.length - (intOf i).toNat)
  case atStart => exact ⟨0, Nat.zero_le _, rfl, 0, rfl⟩
  case round =>
    obtain ⟨k, hk, rfl, n, rfl⟩ := hrel
    by_cases hkl : k < l.length
    · have q1 := H1.out k hkl
      have q2 := H2.out k hkl
      generalize l.getD k 0 = x at q1 q2
      go_wp2
      go_region
      all_goals (try go_wp2)
      go_roundw
      case rel => exact ⟨k + 1, by omega, by go_num, _, rfl⟩
      case measure => simp [intOf]; omega
    · go_wp2
      go_ret
      exact ⟨rfl, _, rfl⟩

set_option maxHeartbeats 1000000 in
theorem bytes_a {w : World} (cap : Int) (a1 a2 : Option Addr) (n1 c1 n2 c2 : Nat) (h1 : n1 ≤ maxLen) (h2 : n2 ≤ maxLen) :
    Calls Try.prog 5 #[.int .i64 cap, .slice a1 n1 c1, .slice a2 n2 c2] w fun e w' => ∃ b, e = .returned (.bool b) ∧ w = w' := by
  unfold maxLen at h1 h2
  go_enter Try.func5, Try.ntmps5
  go_wp2
  all_goals go_ret
  all_goals exact ⟨_, rfl, rfl⟩

set_option maxHeartbeats 1000000 in
theorem bytes_b {w : World} (cap : Int) (a1 a2 : Option Addr) (n1 c1 n2 c2 : Nat) (h1 : n1 ≤ maxLen) (h2 : n2 ≤ maxLen) :
    Calls Try.prog 12 #[.int .i64 cap, .slice a1 n1 c1, .slice a2 n2 c2] w fun e w' => ∃ b, e = .returned (.bool b) ∧ w = w' := by
  unfold maxLen at h1 h2
  go_enter Try.func12, Try.ntmps12
  go_wp2
  all_goals go_ret
  all_goals exact ⟨_, rfl, rfl⟩
end Go.Proofs.Qxb6629139a.Walks
