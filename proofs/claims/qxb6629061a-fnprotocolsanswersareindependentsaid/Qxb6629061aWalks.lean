import Derived.Test.Qxb6629061aRows
import Derived.WalkKit
import Derived.WalkSpells
import Derived.Below
import Derived.Deep.QuietTactic
import Derived.BigQuiet
namespace Go.Proofs.Qxb6629061a.Walks
open Go.RowKit

theorem info26 : (Try.prog.info? 26).map (fun i => (i.zero, i.size, i.bytes)) = some (some (.int .u8 0), 1, 1) := by kernel_rfl

/-- The values 1 .. k as bytes. -/
def upto (k : Nat) : List Value := (List.range k).map fun (j : Nat) => Value.int .u8 ((j : Int) + 1)

theorem upto_succ (k : Nat) : upto (k + 1) = upto k ++ [Value.int .u8 ((k : Int) + 1)] := by
  simp [upto, List.range_succ]
theorem upto_len (k : Nat) : (upto k).length = k := by simp [upto]

set_option maxHeartbeats 400000 in
theorem protocols_any (w : World) :
    Calls Try.prog 5 #[] w fun e w' => ∃ v, e = .returned v ∧ w'.ownsRow w.heap.size 26 1 v 3 (upto 3) ∧ Below w.heap.size w w' := by
  obtain ⟨i0, hi, hz0, hz1, hz2⟩ := info_parts info26
  go_enter Try.func5, Try.ntmps5
  go_wp2
  go_loopw [1, 2] (fun v p wr => ∃ k : Nat, k ≤ 3 ∧ p = .int .u8 ((k : Int) + 1) ∧ wr.ownsRow w.heap.size 26 1 v k (upto k) ∧ Below w.heap.size w wr) (fun _ p _ => 5 - (intOf p).toNat)
  case atStart => exact ⟨0, by omega, rfl, World.ownsRow_nil _ _ _ _, Below.refl _ _⟩
  case round =>
    obtain ⟨k, hk, rfl, hown, hb⟩ := hrel
    by_cases hlt : k < 3
    · go_wp2_with (first
        | (at_builtin; refine wpList_append_own _ rfl _ _ 22 rfl w.heap.size 26 i0 (.int .u8 0) 1 1 Try.underlying22 hi hz0 hz1 hz2 rfl (by decide) _ _ _ rfl (hown.alloc _) ⟨wr.heap.size, 0, none⟩ 1 1 [.int .u8 ((k : Int) + 1)] rfl rfl (cell_one_new _ _ _) (ints_oneCell .u8 [(k : Int) + 1]) (by unfold maxLen; omega) (by omega) (by have := hb.size; simp; omega) ?_; intro v' w1 hown' hgrow _)
        | go_in)
      go_wp2
      go_roundw
      case rel =>
        refine ⟨k + 1, by omega, by go_num, ?_, ?_⟩
        · rw [upto_succ]; exact hown'
        · exact (hb.alloc hb.size _).grown hgrow (by have := hb.size; simp; omega) (fun j hj => (hown.lt j hj).1)
      case measure => simp [intOf]; omega
    · go_wp2
      go_ret
      obtain rfl : k = 3 := by omega
      exact ⟨_, rfl, hown, hb⟩

/-- Of the values 1 .. k those that are v. -/
def cnt (v : Nat) : Nat → Int
  | 0 => 0
  | k + 1 => cnt v k + if k + 1 = v then 1 else 0
theorem cnt_le (v k : Nat) : 0 ≤ cnt v k ∧ cnt v k ≤ (k : Int) := by
  induction k with
  | zero => simp [cnt]
  | succ k ih => simp only [cnt]; split <;> omega
theorem cnt_hit (v k : Nat) (h : k + 1 = v) : cnt v (k + 1) = cnt v k + 1 := by simp [cnt, h]
theorem cnt_miss (v k : Nat) (h : ¬ k + 1 = v) : cnt v (k + 1) = cnt v k := by simp [cnt, h]
theorem cnt_three (v : Nat) : (cnt v 3 = 1 ∧ ((v : Int) == 1) = true) ∨ (cnt v 3 = 1 ∧ ((v : Int) == 1) = false ∧ ((v : Int) == 2) = true) ∨
    (cnt v 3 = 1 ∧ ((v : Int) == 1) = false ∧ ((v : Int) == 2) = false ∧ ((v : Int) == 3) = true) ∨
    (cnt v 3 = 0 ∧ ((v : Int) == 1) = false ∧ ((v : Int) == 2) = false ∧ ((v : Int) == 3) = false) := by
  simp only [beq_iff_eq, beq_eq_false_iff_ne, cnt]
  split <;> split <;> split <;> omega

set_option maxRecDepth 100000 in
set_option maxHeartbeats 1000000 in
theorem each_any (w : World) (g cap : Nat) (h0 : w.cell? ⟨g, 0, none⟩ = some (.int .u8 1)) (h1 : w.cell? ⟨g, 1, none⟩ = some (.int .u8 2)) (h2 : w.cell? ⟨g, 2, none⟩ = some (.int .u8 3)) :
    Calls Try.prog 6 #[.slice (some ⟨g, 0, none⟩) 3 cap] w fun e w' => e = .returned (.bool true) ∧ ∃ n, w' = w.drewN n := by
  go_enter Try.func6, Try.ntmps6
  go_wp2
  go_loopw [3] (fun i wr => ∃ k : Nat, k ≤ 2 ∧ i = .int .i64 ((k : Int) + 1) ∧ ∃ n, wr = w.drewN n) (fun i _ => 4 - (intOf i).toNat)
  case atStart => exact ⟨0, by omega, rfl, 0, rfl⟩
  case round =>
    obtain ⟨k, hk, rfl, n, rfl⟩ := hrel
    match k, hk with
    | 0, _ =>
      go_wp2
      go_region
      all_goals (try go_wp2)
      go_roundw
      case rel => exact ⟨1, by omega, rfl, _, rfl⟩
      case measure => simp [intOf]
    | 1, _ =>
      go_wp2
      go_region
      all_goals (try go_wp2)
      go_roundw
      case rel => exact ⟨2, by omega, rfl, _, rfl⟩
      case measure => simp [intOf]
    | 2, _ =>
      go_wp2
      go_loopw [4] (fun i wr => ∃ v : Nat, v ≤ 256 ∧ i = .int .i64 (v : Int) ∧ ∃ n, wr = w.drewN n) (fun i _ => 256 - (intOf i).toNat)
      case atStart => exact ⟨0, by omega, rfl, n, rfl⟩
      case round =>
        obtain ⟨v, hv, rfl, n, rfl⟩ := hrel
        by_cases hlt : v < 256
        · go_wp2
          go_loop [6, 7] (fun c j => ∃ k : Nat, k ≤ 3 ∧ j = .int .i64 (k : Int) ∧ c = .int .i64 (cnt v k)) (fun _ j => 3 - (intOf j).toNat)
          case atStart => exact ⟨0, by omega, rfl, rfl⟩
          case round =>
            obtain ⟨k, hk, rfl, rfl⟩ := hrel
            have hcb := cnt_le v k
            by_cases hk3 : k < 3
            · have hcell : w.cell? ⟨g, k, none⟩ = some (.int .u8 ((k : Int) + 1)) := by
                match k, hk3 with
                | 0, _ => exact h0
                | 1, _ => exact h1
                | 2, _ => exact h2
              by_cases he : k + 1 = v
              · have hbe : ((k : Int) + 1 == (v : Int)) = true := beq_iff_eq.2 (by omega)
                have HC : Hid (cnt v (k + 1) = cnt v k + 1) := cnt_hit v k he
                clear he
                go_wp2
                go_round
                case rel => exact ⟨k + 1, by omega, by go_num, by rw [HC.out]⟩
                case measure => simp [intOf]; omega
              · have hbe : ((k : Int) + 1 == (v : Int)) = false := beq_eq_false_iff_ne.2 (by omega)
                have HC : Hid (cnt v (k + 1) = cnt v k) := cnt_miss v k he
                clear he
                go_wp2
                go_round
                case rel => exact ⟨k + 1, by omega, by go_num, by rw [HC.out]⟩
                case measure => simp [intOf]; omega
            · obtain rfl : k = 3 := by omega
              rcases cnt_three v with ⟨hc, e1⟩ | ⟨hc, e1, e2⟩ | ⟨hc, e1, e2, e3⟩ | ⟨hc, e1, e2, e3⟩
              all_goals
                clear hcb
                go_wp2
                go_roundw
                case rel => exact ⟨v + 1, by omega, by go_num, _, rfl⟩
                case measure => simp [intOf]; omega
        · go_wp2
          go_ret
          exact ⟨rfl, _, rfl⟩

/-- What the three bytes are, cell by cell. -/
theorem cells_of {w : World} {base : Nat} {v : Value} (h : w.ownsRow base 26 1 v 3 (upto 3)) :
    ∃ g cap, v = .slice (some ⟨g, 0, none⟩) 3 cap ∧ w.cell? ⟨g, 0, none⟩ = some (.int .u8 1) ∧ w.cell? ⟨g, 1, none⟩ = some (.int .u8 2) ∧ w.cell? ⟨g, 2, none⟩ = some (.int .u8 3) := by
  rcases h.2 with ⟨_, h0⟩ | ⟨g, cap, cur, rfl, _⟩
  · exact absurd h0 (by decide)
  · exact ⟨g, cap, rfl, h.cellAt 0 (by decide), h.cellAt 1 (by decide), h.cellAt 2 (by decide)⟩

/-- A row that lies below the heap's size stays owned by what turns nothing below it. -/
theorem kept_below {w w' : World} {base : Nat} {e : TypeId} {size n : Nat} {v : Value} {xs : List Value} (h : w.ownsRow base e size v n xs) (hb : Below w.heap.size w w') : w'.ownsRow base e size v n xs := by
  have hlt := h.lt
  refine ⟨h.1, ?_⟩
  rcases h.2 with hn | ⟨g, cap, cur, rfl, hg, hh, rest⟩
  · exact .inl hn
  · exact .inr ⟨g, cap, cur, rfl, hg, by rw [hb.block g (hlt g rfl).2]; exact hh, rest⟩
end Go.Proofs.Qxb6629061a.Walks
