/- ZZnewPrefixCache. -/
import Derived.Test.Qxb6629139aTake
namespace Go.Proofs.Qxb6629139a.Walks
open Go.RowKit Go.Proofs.Qxb6629139a.Plain
set_option linter.unusedVariables false

set_option maxHeartbeats 1000000 in
theorem new_raw (w : World) (cap : Int) :
    Calls Try.prog 6 #[.int .i64 cap] w fun e w' => e = .returned (.pointer (some ⟨w.heap.size + 2, 0, none⟩)) ∧
      w' = ((w.alloc (.cells #[.int .i64 0, .int .u64 0, .int .i64 0, .int .i64 0] 35)).alloc (.map #[] 0)).alloc (.cells #[.int .i64 cap, .slice (some ⟨w.heap.size, 0, none⟩) 1 1, .map (some (w.heap.size + 1)), .int .u64 0] 39) := by
  have hmm := @run_makeMap Try.prog
  go_enter Try.func6, Try.ntmps6
  go_wp2
  go_ret
  exact ⟨rfl, rfl⟩

theorem new_any (w : World) (cap : Int) :
    Calls Try.prog 6 #[.int .i64 cap] w fun e w' => e = .returned (.pointer (some ⟨w.heap.size + 2, 0, none⟩)) ∧
      Rep w' w.heap.size (w.heap.size + 2) w.heap.size 1 (w.heap.size + 1) cap 0 [zeroEnt] (.map []) ∧ Below w.heap.size w w' := by
  refine (new_raw w cap).mono ?_
  rintro e w' ⟨rfl, rfl⟩
  refine ⟨rfl, ⟨?_, ?_, ?_, by omega, by omega⟩, ?_⟩
  · have := heap_alloc_new ((w.alloc (.cells #[.int .i64 0, .int .u64 0, .int .i64 0, .int .i64 0] 35)).alloc (.map #[] 0)) (.cells #[.int .i64 cap, .slice (some ⟨w.heap.size, 0, none⟩) 1 1, .map (some (w.heap.size + 1)), .int .u64 0] 39)
    simpa using this
  · have := World.ownsRow_lit (base := w.heap.size) (e := 35) (size := 4) w #[.int .i64 0, .int .u64 0, .int .i64 0, .int .i64 0] 1 (Nat.le_refl _) (by unfold maxLen; omega) rfl
    exact (this.alloc _).alloc _
  · have := World.ownsMap_made (H := Unit) (w.alloc (.cells #[.int .i64 0, .int .u64 0, .int .i64 0, .int .i64 0] 35)) Try.prog 2 (plainElem Try.prog 3)
    have := this.alloc (.cells #[.int .i64 cap, .slice (some ⟨w.heap.size, 0, none⟩) 1 1, .map (some (w.heap.size + 1)), .int .u64 0] 39)
    simpa [Maps.size] using this
  · exact (((Below.refl _ _).alloc (Nat.le_refl _) _).alloc (by simp) _).alloc (by simp; omega) _
end Go.Proofs.Qxb6629139a.Walks
